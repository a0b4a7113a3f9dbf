import JvmDerived
import JvmDerived.Pilot.@@N@@Statement
import JvmDerived.Pilot.@@N@@Code
set_option linter.unusedVariables false
set_option linter.unusedSimpArgs false
namespace Jvm.Pilot.@@N@@
open Jvm Jvm.ClassFile Sem Op Lib Jvm.Free Jvm.Stand Jvm.LawKit Jvm.RoadKit Bundle Jvm.Free.Fl Jvm.Pilot.@@N@@.Jvm.D
theorem own_w {a0 : Array Value} {Z : State} (hw : ∀ d ∈ tables_1, d.before a0 Z = true) (i : Nat) {d : Jvm.Cond} (h : tables_1[i]? = some d) : d.before a0 Z = true := hw _ (List.mem_of_getElem? h)
abbrev own_S (p : Program) (e : Env) (below : List Frame) (T : State) (m : MethodId) (pc : Nat) (Ls : Array Slot) (st : List Value) (t : State) : Prop := Steps p.tables e below (T.setTop (mkF m pc Ls st)) t
section Re
variable {tb : Tables} {e : Env} {below : List Frame} {T target : State} {m : MethodId} {pc : Nat} {Ls : Array Slot} {rest : List Value}
theorem reI {x y : Int32} (h : x = y) (k : Steps tb e below (T.setTop (mkF m pc Ls (.int y :: rest))) target) : Steps tb e below (T.setTop (mkF m pc Ls (.int x :: rest))) target := by rw [h]; exact k
theorem reJ {x y : Int64} (h : x = y) (k : Steps tb e below (T.setTop (mkF m pc Ls (.long y :: rest))) target) : Steps tb e below (T.setTop (mkF m pc Ls (.long x :: rest))) target := by rw [h]; exact k
theorem reD {x y : UInt64} (h : x = y) (k : Steps tb e below (T.setTop (mkF m pc Ls (.double y :: rest))) target) : Steps tb e below (T.setTop (mkF m pc Ls (.double x :: rest))) target := by rw [h]; exact k
theorem re2I {v : Value} {x y : Int32} (h : x = y) (k : Steps tb e below (T.setTop (mkF m pc Ls (v :: .int y :: rest))) target) : Steps tb e below (T.setTop (mkF m pc Ls (v :: .int x :: rest))) target := by rw [h]; exact k
theorem own_nnl {e v : UInt64} (h : e = v) (hv : NoNaN64 v) : NoNaN64 e := h ▸ hv
end Re
section OwnFloat
open Jvm.FP
/-- finite, and worth z units of 2^-1074 -/
def own_At (a : UInt64) (z : Int) : Prop := ∃ s c q, Core.val64 a = .fin s c q ∧ Core.signed s (Core.inUnits c q (-1074)) = z
/-- a magnitude that a double has exactly -/
def own_Rep (n : Nat) : Prop := ∃ m e : Nat, n = m * 2 ^ e ∧ m < 2 ^ 53 ∧ e ≤ 2045
theorem own_shift {A C a b a' b' : Nat} (h : A * 2 ^ a = C * 2 ^ b) (hab : a + b' = a' + b) : A * 2 ^ a' = C * 2 ^ b' := by
  have h1 : A * 2 ^ a' * 2 ^ b = C * 2 ^ b' * 2 ^ b := by
    calc A * 2 ^ a' * 2 ^ b = A * (2 ^ a' * 2 ^ b) := Nat.mul_assoc _ _ _
      _ = A * 2 ^ (a' + b) := by rw [Nat.pow_add]
      _ = A * 2 ^ (a + b') := by rw [hab]
      _ = A * 2 ^ a * 2 ^ b' := by rw [Nat.pow_add, Nat.mul_assoc]
      _ = C * 2 ^ b * 2 ^ b' := by rw [h]
      _ = C * 2 ^ b' * 2 ^ b := by rw [Nat.mul_assoc, Nat.mul_comm (2 ^ b), Nat.mul_assoc]
  exact Nat.eq_of_mul_eq_mul_right (Nat.two_pow_pos b) h1
theorem own_fit (s : Bool) {n : Nat} (h : own_Rep n) : ∃ c q, Core.fits Core.b64 (.fin s c q) ∧ Core.inUnits c q (-1074) = n := by
  obtain ⟨m, e, rfl, hm, he⟩ := h
  have h1 : Core.b64.qmin ≤ -1074 + (e : Int) := by rw [Core.qmin_b64]; omega
  have h2 : -1074 + (e : Int) ≤ Core.b64.qmax := by rw [show Core.b64.qmax = 971 by decide +kernel]; omega
  obtain ⟨c, q, hr, hu⟩ := Core.round_exact Core.good_b64 s (c := m) (q := -1074 + (e : Int)) hm h1 h2
  refine ⟨c, q, ?_, ?_⟩
  · rw [← hr]; exact Core.round_fits Core.good_b64 _
  · rw [Core.qmin_b64] at hu
    rw [hu]
    show m * 2 ^ (-1074 + (e : Int) - -1074).toNat = m * 2 ^ e
    congr 2
    omega
/-- rounding a ratio that a double has exactly -/
theorem own_rr {s : Bool} {A B n : Nat} {e : Int} (hB : 0 < B) (hn : own_Rep n) (h : A * 2 ^ (e + 1074).toNat = n * B * 2 ^ (-(e + 1074)).toNat) :
    ∃ c q, Core.roundRatio Core.b64 s A B e = .fin s c q ∧ Core.inUnits c q (-1074) = n := by
  obtain ⟨c, q, hf, hu⟩ := own_fit s hn
  refine ⟨c, q, Core.roundRatio_exact Core.good_b64 hB hf ?_, hu⟩
  have hq : -1074 ≤ q := by have := hf.2.1; rw [Core.qmin_b64] at this; exact this
  rw [← hu] at h
  unfold Core.inUnits at h
  have h' : A * 2 ^ (e + 1074).toNat = (c * B) * 2 ^ ((q - -1074).toNat + (-(e + 1074)).toNat) := by
    rw [h, Nat.pow_add]; simp only [Nat.mul_assoc, Nat.mul_left_comm, Nat.mul_comm]
  exact own_shift h' (by omega)
theorem own_at_fin {a : UInt64} {z : Int} (h : own_At a z) : Fin64 a := by
  obtain ⟨s, c, q, h, -⟩ := h
  exact fin64_core.mpr ⟨s, c, q, h⟩
theorem own_at_nn {a : UInt64} {z : Int} (h : own_At a z) : NoNaN64 a := (own_at_fin h).noNaN
theorem own_at_val {a : UInt64} {z : Int} (h : own_At a z) : Core.val64 a ≠ .nan ∧ Core.zval Core.b64 (Core.val64 a) = z := by
  obtain ⟨s, c, q, h, hz⟩ := h
  rw [h]
  refine ⟨nofun, ?_⟩
  show Core.signed s (Core.inUnits c q Core.b64.qmin) = z
  rw [Core.qmin_b64]; exact hz
theorem own_cmp {a b : UInt64} {x y : Int} (ha : own_At a x) (hb : own_At b y) : FP.dcmp a b = some (compare x y) := by
  have h1 := own_at_val ha; have h2 := own_at_val hb
  rw [← h1.2, ← h2.2]; exact Core.dcmp_zval h1.1 h2.1
theorem own_cmpV {a b : UInt64} {x y : Int} (ha : own_At a x) (hb : own_At b y) (o : CmpOp) : cmpValue (FP.dcmp a b) o = if x < y then -1 else if x = y then 0 else 1 := by
  rw [own_cmp ha hb]
  rcases Int.lt_trichotomy x y with h | h | h
  · rw [if_pos h, show compare x y = .lt from by simp [compare, compareOfLessAndEq, h]]; cases o <;> rfl
  · rw [if_neg (by omega), if_pos h, show compare x y = .eq from by subst h; simp [compare, compareOfLessAndEq]]; cases o <;> rfl
  · rw [if_neg (by omega), if_neg (by omega), show compare x y = .gt from by simp [compare, compareOfLessAndEq, show ¬ x < y by omega, show ¬ x = y by omega]]; cases o <;> rfl
theorem own_eqV {a b : UInt64} {x y : Int} (ha : own_At a x) (hb : own_At b y) (h : x = y) (o : CmpOp) : cmpValue (FP.dcmp a b) o = 0 := by
  rw [own_cmpV ha hb, if_neg (by omega), if_pos h]
theorem own_int {i : Int} {a : UInt64} (h : Core.DInt i a) : own_At a (i * (Core.one64 : Int)) := by
  have hz := Core.DInt_zval h
  unfold Core.DInt at h
  cases e : Core.val64 a with
  | nan => rw [e] at h; exact h.elim
  | inf s => rw [e] at h; exact h.elim
  | fin s c q =>
    refine ⟨s, c, q, e, ?_⟩
    rw [e] at hz
    rw [← hz]
    show _ = Core.signed s (Core.inUnits c q Core.b64.qmin)
    rw [Core.qmin_b64]
theorem own_dint_fin {i : Int} {a : UInt64} (h : Core.DInt i a) : Fin64 a := own_at_fin (own_int h)
theorem own_dint_nn {i : Int} {a : UInt64} (h : Core.DInt i a) : NoNaN64 a := (own_dint_fin h).noNaN
theorem own_icmp {a b : UInt64} {x y : Int} (ha : Core.DInt x a) (hb : Core.DInt y b) (o : CmpOp) : cmpValue (FP.dcmp a b) o = if x < y then -1 else if x = y then 0 else 1 := by
  rw [show FP.dcmp a b = some (compare x y) from Core.dcmp_int ha hb]
  rcases Int.lt_trichotomy x y with h | h | h
  · rw [if_pos h, show compare x y = .lt from by simp [compare, compareOfLessAndEq, h]]; cases o <;> rfl
  · rw [if_neg (by omega), if_pos h, show compare x y = .eq from by subst h; simp [compare, compareOfLessAndEq]]; cases o <;> rfl
  · rw [if_neg (by omega), if_neg (by omega), show compare x y = .gt from by simp [compare, compareOfLessAndEq, show ¬ x < y by omega, show ¬ x = y by omega]]; cases o <;> rfl
theorem own_ieq {a b : UInt64} {x y : Int} (ha : Core.DInt x a) (hb : Core.DInt y b) (h : x = y) (o : CmpOp) : cmpValue (FP.dcmp a b) o = 0 := by
  rw [own_icmp ha hb, if_neg (by omega), if_pos h]
/-- the quotient of two whole numbers, as one rounding of their ratio -/
theorem own_quot {i j : Int} {a b : UInt64} (ha : Core.DInt i a) (hb : Core.DInt j b) (hj : j ≠ 0) :
    ∃ s, Core.val64 (FP.ddiv a b) = Core.roundRatio Core.b64 s i.natAbs j.natAbs 0 ∧ (i ≠ 0 → s = (decide (i < 0) != decide (j < 0))) := by
  show ∃ s, Core.val64 (Core.ddiv a b) = _ ∧ _
  rw [Core.val64_ddiv]
  unfold Core.DInt at ha hb
  generalize Core.val64 a = x at ha
  generalize Core.val64 b = y at hb
  cases x with
  | nan => exact ha.elim
  | inf => exact ha.elim
  | fin s c q =>
  cases y with
  | nan => exact hb.elim
  | inf => exact hb.elim
  | fin t d r =>
    have hd : d ≠ 0 := fun h => hj ((Core.whole_zero hb).mp h)
    refine ⟨s != t, ?_, fun hi => by rw [Core.whole_sign ha hi, Core.whole_sign hb hj]⟩
    show (if d = 0 then _ else Core.roundRatio Core.b64 (s != t) c d (q - r)) = _
    rw [if_neg hd]
    refine Core.roundRatio_congr (by omega) (by omega) ?_
    have h1 := Core.whole_natAbs ha
    have h2 := Core.whole_natAbs hb
    have h3 : (c * j.natAbs) * 2 ^ (q.toNat + (-r).toNat) = (i.natAbs * d) * 2 ^ ((-q).toNat + r.toNat) := by
      calc (c * j.natAbs) * 2 ^ (q.toNat + (-r).toNat) = (c * 2 ^ q.toNat) * (j.natAbs * 2 ^ (-r).toNat) := by rw [Nat.pow_add]; simp only [Nat.mul_assoc, Nat.mul_left_comm, Nat.mul_comm]
        _ = (i.natAbs * 2 ^ (-q).toNat) * (d * 2 ^ r.toNat) := by rw [h1, h2]
        _ = (i.natAbs * d) * 2 ^ ((-q).toNat + r.toNat) := by rw [Nat.pow_add]; simp only [Nat.mul_assoc, Nat.mul_left_comm, Nat.mul_comm]
    exact own_shift h3 (by omega)
/-- a quotient that comes out whole -/
theorem own_ddiv {i j k : Int} {a b : UInt64} (ha : Core.DInt i a) (hb : Core.DInt j b) (hj : j ≠ 0) (hk : i = k * j) (hs : k.natAbs ≤ 2 ^ 53) : Core.DInt k (FP.ddiv a b) := by
  obtain ⟨s, hv, hsgn⟩ := own_quot ha hb hj
  unfold Core.DInt
  rw [hv]
  have hw : Core.Whole k (.fin s k.natAbs 0) := by
    show Core.signed s (k.natAbs * 2 ^ (0 : Int).toNat) = k * ((2 ^ (-(0 : Int)).toNat : Nat) : Int)
    by_cases h0 : k = 0
    · subst h0; simp [Core.signed]
    · have hi : i ≠ 0 := by rw [hk]; exact Int.mul_ne_zero h0 hj
      have hsk : s = decide (k < 0) := by
        rw [hsgn hi, hk]
        rcases Int.lt_or_gt_of_ne h0 with a1 | a1 <;> rcases Int.lt_or_gt_of_ne hj with a2 | a2
        · have := Int.mul_pos_of_neg_of_neg a1 a2; simp [show ¬ k * j < 0 by omega, a1, a2]
        · have := Int.mul_neg_of_neg_of_pos a1 a2; simp [this, a1, show ¬ j < 0 by omega]
        · have := Int.mul_neg_of_pos_of_neg a1 a2; simp [this, show ¬ k < 0 by omega, a2]
        · have := Int.mul_pos a1 a2; simp [show ¬ k * j < 0 by omega, show ¬ k < 0 by omega, show ¬ j < 0 by omega]
      rw [hsk]
      by_cases hn : k < 0
      · simp [Core.signed, hn]; omega
      · simp [Core.signed, hn]; omega
  have h1 : Core.roundRatio Core.b64 s i.natAbs j.natAbs 0 = Core.round Core.b64 (.fin s k.natAbs 0) := by
    show _ = Core.roundRatio Core.b64 s k.natAbs 1 0
    refine Core.roundRatio_congr (by omega) (by omega) ?_
    rw [hk, Int.natAbs_mul]; simp
  rw [h1]
  exact Core.whole_round Core.good_b64 Core.wide_b64 hs hw
theorem own_zv {s : Bool} {c : Nat} {q x : Int} (h : Core.signed s (Core.inUnits c q (-1074)) = x) : Core.zval Core.b64 (.fin s c q) = x := by
  show Core.signed s (Core.inUnits c q Core.b64.qmin) = x
  rw [Core.qmin_b64]; exact h
theorem own_sg {s : Bool} {k : Nat} {z : Int} (h : Core.signed s k = z) : Core.signed s z.natAbs = z := by rw [← h, Core.natAbs_signed]
theorem own_sum {a b : UInt64} {x y : Int} (ha : own_At a x) (hb : own_At b y) (hr : own_Rep (x + y).natAbs) : own_At (FP.dadd a b) (x + y) := by
  obtain ⟨s, c, q, ea, hx⟩ := ha
  obtain ⟨t, d, r, eb, hy⟩ := hb
  have fa := Core.val64_fits a; rw [ea] at fa
  have fb := Core.val64_fits b; rw [eb] at fb
  obtain ⟨sg, n, e, he, hq, hs⟩ := Core.sum_units fa fb
  rw [own_zv hx, own_zv hy, Core.qmin_b64] at hs
  rw [Core.qmin_b64] at hq
  have hn : n * 2 ^ (e + 1074).toNat = (x + y).natAbs := by
    rw [← hs, Core.natAbs_signed]; unfold Core.inUnits; congr 2
  obtain ⟨c', q', hr', hu⟩ := own_rr (s := sg) (A := n) (B := 1) (e := e) (by decide) hr (by rw [hn, show (-(e + 1074)).toNat = 0 by omega]; simp)
  refine ⟨sg, c', q', ?_, ?_⟩
  · show Core.val64 (Core.dadd a b) = _
    rw [Core.val64_dadd, ea, eb, he]; exact hr'
  · rw [hu]; exact own_sg hs
theorem own_neg {a : UInt64} {x : Int} (ha : own_At a x) : own_At (FP.dneg a) (-x) := by
  obtain ⟨s, c, q, ea, hx⟩ := ha
  refine ⟨!s, c, q, ?_, ?_⟩
  · rw [FP.val64_dneg, ea]; rfl
  · rw [← hx]; cases s <;> simp [Core.signed]
theorem own_sub {a b : UInt64} {x y : Int} (ha : own_At a x) (hb : own_At b y) (hr : own_Rep (x - y).natAbs) : own_At (FP.dsub a b) (x - y) := by
  obtain ⟨s, c, q, ea, hx⟩ := ha
  obtain ⟨t, d, r, eb, hy⟩ := hb
  have fa := Core.val64_fits a; rw [ea] at fa
  have fb := Core.val64_fits b; rw [eb] at fb
  have fb' : Core.fits Core.b64 (.fin (!t) d r) := fb
  have hy' : Core.signed (!t) (Core.inUnits d r (-1074)) = -y := by rw [← hy]; cases t <;> simp [Core.signed]
  obtain ⟨sg, n, e, he, hq, hs⟩ := Core.sum_units fa fb'
  rw [own_zv hx, own_zv hy', Core.qmin_b64, ← Int.sub_eq_add_neg] at hs
  rw [Core.qmin_b64] at hq
  have hn : n * 2 ^ (e + 1074).toNat = (x - y).natAbs := by
    rw [← hs, Core.natAbs_signed]; unfold Core.inUnits; congr 2
  obtain ⟨c', q', hr', hu⟩ := own_rr (s := sg) (A := n) (B := 1) (e := e) (by decide) hr (by rw [hn, show (-(e + 1074)).toNat = 0 by omega]; simp)
  refine ⟨sg, c', q', ?_, ?_⟩
  · show Core.val64 (Core.dsub a b) = _
    rw [Core.val64_dsub, ea, eb]
    show Core.round Core.b64 (Core.exactSum (.fin s c q) (.fin (!t) d r)) = _
    rw [he]; exact hr'
  · rw [hu]; exact own_sg hs
theorem own_mul {a b : UInt64} {x y z : Int} (ha : own_At a x) (hb : own_At b y) (hz : x * y = z * (Core.one64 : Int)) (hr : own_Rep z.natAbs) : own_At (FP.dmul a b) z := by
  obtain ⟨s, c, q, ea, hx⟩ := ha
  obtain ⟨t, d, r, eb, hy⟩ := hb
  have fa := Core.val64_fits a; rw [ea] at fa
  have fb := Core.val64_fits b; rw [eb] at fb
  obtain ⟨he, hq, hu⟩ := Core.product_units fa fb
  rw [Core.qmin_b64] at hq hu
  have hX : Core.zmag Core.b64 (.fin s c q) = x.natAbs := by
    rw [← hx, Core.natAbs_signed]; show Core.inUnits c q Core.b64.qmin = _; rw [Core.qmin_b64]
  have hY : Core.zmag Core.b64 (.fin t d r) = y.natAbs := by
    rw [← hy, Core.natAbs_signed]; show Core.inUnits d r Core.b64.qmin = _; rw [Core.qmin_b64]
  have hN : x.natAbs * y.natAbs = z.natAbs * 2 ^ 1074 := by
    have := congrArg Int.natAbs hz
    rw [Int.natAbs_mul, Int.natAbs_mul, Int.natAbs_natCast] at this
    exact this
  rw [hX, hY, hN] at hu
  have hu' : c * d * 2 ^ (q + r + 2148).toNat = z.natAbs * 2 ^ 1074 := by
    rw [← hu]; unfold Core.inUnits; congr 2
  obtain ⟨c', q', hr', hw⟩ := own_rr (s := s != t) (A := c * d) (B := 1) (e := q + r) (by decide) hr (by rw [Nat.mul_one]; exact own_shift hu' (by omega))
  refine ⟨s != t, c', q', ?_, ?_⟩
  · show Core.val64 (Core.dmul a b) = _
    rw [Core.val64_dmul, ea, eb, he]; exact hr'
  · rw [hw]
    have p : (Core.one64 : Int) ≠ 0 := by have := Core.one64_pos; omega
    refine Int.eq_of_mul_eq_mul_right p ?_
    rw [← hz, ← Core.signed_mul, show z.natAbs * Core.one64 = x.natAbs * y.natAbs from hN.symm, Core.signed_xor, own_sg hx, own_sg hy]
theorem own_div {a b : UInt64} {x y z : Int} (ha : own_At a x) (hb : own_At b y) (h0 : y ≠ 0) (hz : x * (Core.one64 : Int) = z * y) (hr : own_Rep z.natAbs) : own_At (FP.ddiv a b) z := by
  obtain ⟨s, c, q, ea, hx⟩ := ha
  obtain ⟨t, d, r, eb, hy⟩ := hb
  have fa := Core.val64_fits a; rw [ea] at fa
  have fb := Core.val64_fits b; rw [eb] at fb
  have hq : -1074 ≤ q := by have := fa.2.1; rw [Core.qmin_b64] at this; exact this
  have hq2 : -1074 ≤ r := by have := fb.2.1; rw [Core.qmin_b64] at this; exact this
  have hd : d ≠ 0 := fun h => h0 (by rw [← hy, h]; unfold Core.inUnits; rw [Nat.zero_mul]; exact Core.signed_zero t)
  have hX : c * 2 ^ (q + 1074).toNat = x.natAbs := by
    rw [← hx, Core.natAbs_signed]; unfold Core.inUnits; congr 2
  have hY : d * 2 ^ (r + 1074).toNat = y.natAbs := by
    rw [← hy, Core.natAbs_signed]; unfold Core.inUnits; congr 2
  have hN : x.natAbs * 2 ^ 1074 = z.natAbs * y.natAbs := by
    have := congrArg Int.natAbs hz
    rw [Int.natAbs_mul, Int.natAbs_mul, Int.natAbs_natCast] at this
    exact this
  have hu : c * 2 ^ ((q + 1074).toNat + 1074) = (z.natAbs * d) * 2 ^ (r + 1074).toNat := by
    rw [Nat.pow_add, ← Nat.mul_assoc, hX, hN, ← hY, Nat.mul_assoc]
  obtain ⟨c', q', hr', hw⟩ := own_rr (s := s != t) (A := c) (B := d) (e := q - r) (by omega) hr (own_shift hu (by omega))
  refine ⟨s != t, c', q', ?_, ?_⟩
  · show Core.val64 (Core.ddiv a b) = _
    rw [Core.val64_ddiv, ea, eb]
    show (if d = 0 then _ else Core.roundRatio Core.b64 (s != t) c d (q - r)) = _
    rw [if_neg hd]; exact hr'
  · rw [hw]
    refine Int.eq_of_mul_eq_mul_right h0 ?_
    have e1 : Core.signed (s != t) z.natAbs * Core.signed t y.natAbs = Core.signed s (z.natAbs * y.natAbs) := by
      rw [← Core.signed_xor, show ((s != t) != t) = s by cases s <;> cases t <;> rfl]
    rw [own_sg hy] at e1
    rw [e1, ← hz, ← hN, Core.signed_mul, own_sg hx]
    rfl
end OwnFloat
section OwnInt
theorem own_lmul {x y : Int64} {A B : Nat} (hx : x.toInt.natAbs ≤ A) (hy : y.toInt.natAbs ≤ B) (h : A * B < 2 ^ 62) : (x * y).toInt = x.toInt * y.toInt := by
  have hb : (x.toInt * y.toInt).natAbs ≤ A * B := by rw [Int.natAbs_mul]; exact Nat.mul_le_mul hx hy
  rw [Int64.toInt_mul]; exact Int.bmod_eq_of_le (by omega) (by omega)
theorem own_ladd {x y : Int64} {A B : Nat} (hx : x.toInt.natAbs ≤ A) (hy : y.toInt.natAbs ≤ B) (h : A + B < 2 ^ 62) : (x + y).toInt = x.toInt + y.toInt := by
  rw [Int64.toInt_add]; exact Int.bmod_eq_of_le (by omega) (by omega)
theorem own_lsub {x y : Int64} {A B : Nat} (hx : x.toInt.natAbs ≤ A) (hy : y.toInt.natAbs ≤ B) (h : A + B < 2 ^ 62) : (x - y).toInt = x.toInt - y.toInt := by
  rw [Int64.toInt_sub]; exact Int.bmod_eq_of_le (by omega) (by omega)
theorem own_maskL {x m : Int64} {k : Nat} (hk : k ≤ 63) (hm : m.toBitVec.toNat = 2 ^ k - 1) : 0 ≤ (x &&& m).toInt ∧ (x &&& m).toInt < ((2 ^ k : Nat) : Int) := by
  rw [c_maskL x m k hk hm]
  have p : (0 : Int) < ((2 ^ k : Nat) : Int) := by have := Nat.two_pow_pos k; omega
  exact ⟨Int.emod_nonneg _ (by omega), Int.emod_lt_of_pos _ p⟩
theorem own_maskI {x m : Int32} {k : Nat} (hk : k ≤ 31) (hm : m.toBitVec.toNat = 2 ^ k - 1) : 0 ≤ (x &&& m).toInt ∧ (x &&& m).toInt < ((2 ^ k : Nat) : Int) := by
  rw [c_mask x m k hk hm]
  have p : (0 : Int) < ((2 ^ k : Nat) : Int) := by have := Nat.two_pow_pos k; omega
  exact ⟨Int.emod_nonneg _ (by omega), Int.emod_lt_of_pos _ p⟩
theorem own_cases32 {x : Int32} {n : Nat} (h0 : 0 ≤ x.toInt) (h1 : x.toInt < (n : Int)) : ∃ k : Nat, k < n ∧ x = Int32.ofNat k := by
  refine ⟨x.toInt.toNat, by omega, ?_⟩
  apply Int32.toInt_inj.mp
  have hx := x.toInt_lt
  rw [Int32.toInt_ofNat_of_lt (by omega)]
  omega
theorem own_irem {x z m : Int32} (h : z = x % m) {M : Int} (hm : m.toInt = M) (hM : 0 < M) : -M < z.toInt ∧ z.toInt < M ∧ (0 ≤ x.toInt → 0 ≤ z.toInt) := by
  have q := c_irem x m M hm
  rcases (by omega : x.toInt < 0 ∨ 0 ≤ x.toInt) with a | a
  · have := q.2 a; rw [← h] at this
    have b1 := Int.emod_nonneg (-x.toInt) (show M ≠ 0 by omega); have b2 := Int.emod_lt_of_pos (-x.toInt) hM
    omega
  · have := q.1 a; rw [← h] at this
    have b1 := Int.emod_nonneg x.toInt (show M ≠ 0 by omega); have b2 := Int.emod_lt_of_pos x.toInt hM
    omega
theorem own_ple {j k : Nat} (h : j ≤ k) : (2 : Int) ^ j ≤ 2 ^ k := by
  have h1 : ((2 ^ j : Nat) : Int) = (2 : Int) ^ j := Int.natCast_pow 2 j
  have h2 : ((2 ^ k : Nat) : Int) = (2 : Int) ^ k := Int.natCast_pow 2 k
  have h3 : 2 ^ j ≤ 2 ^ k := Nat.pow_le_pow_right (by decide) h
  rw [← h1, ← h2]; omega
end OwnInt
section OwnScale
open Jvm.FP
theorem own_U (j : Nat) (h : j ≤ 1074) : (Core.one64 : Int) = 2 ^ (1074 - j) * 2 ^ j := by
  unfold Core.one64
  rw [← Int.pow_add, Nat.sub_add_cancel h]; simp
/-- a whole number divided by a power of two, and multiplied by it again -/
theorem own_scale {n : Int} {j : Nat} {a b : UInt64} (ha : Core.DInt n a) (hb : Core.DInt (2 ^ j) b) (hn : n.natAbs < 2 ^ 53) (hj : j ≤ 62) :
    own_At (FP.ddiv a b) (n * 2 ^ (1074 - j)) ∧ own_At (FP.dmul (FP.ddiv a b) b) (n * (Core.one64 : Int)) := by
  have hU := own_U j (by omega)
  have hp : (0 : Int) < 2 ^ j := Int.pow_pos (by decide)
  have hU0 : (0 : Int) < (Core.one64 : Int) := by have := Core.one64_pos; omega
  have h1 : own_At (FP.ddiv a b) (n * 2 ^ (1074 - j)) := by
    refine own_div (own_int ha) (own_int hb) (Int.mul_ne_zero (by omega) (by omega)) ?_ ⟨n.natAbs, 1074 - j, ?_, hn, by omega⟩
    · rw [hU]; simp only [Int.mul_assoc, Int.mul_left_comm, Int.mul_comm]
    · rw [Int.natAbs_mul, Int.natAbs_pow]; rfl
  refine ⟨h1, own_mul h1 (own_int hb) ?_ ⟨n.natAbs, 1074, ?_, hn, by omega⟩⟩
  · rw [hU]; simp only [Int.mul_assoc, Int.mul_left_comm, Int.mul_comm]
  · rw [Int.natAbs_mul, Int.natAbs_natCast]; rfl
end OwnScale
theorem own_D0 : FP.Core.DInt 0 (0 : UInt64) := by
  have h := FP.Core.i2d_int (0 : Int32)
  rw [show FP.Core.i2d 0 = 0 by decide +kernel] at h
  exact h
def own_rch (x : UInt64) : Int32 := if (cmpValue (FP.dcmp x (9218868437227405312 : UInt64)) .g) < (0 : Int32) then 1 else 0
theorem own_rfin {x : UInt64} (h : Fin64 x) : own_rch x = 1 := by unfold own_rch; rw [dcmp_pinf h]; decide
theorem own_rinf : own_rch 9218868437227405312 = 0 := by decide +kernel
theorem own_i2dc (k : Int32) (c : UInt64) (h : FP.Core.i2d k = c) : FP.Core.DInt k.toInt c := by rw [← h]; exact FP.Core.i2d_int k
theorem own_nlt {x : UInt64} {z : Int} (h : own_At x z) (h0 : 0 ≤ z) : ¬ (cmpValue (FP.dcmp x (0 : UInt64)) .l) < (0 : Int32) := by
  rw [own_cmpV h (own_int own_D0), if_neg (by omega)]
  split <;> decide
theorem own_lnn {v : Int64} (h : 0 ≤ v.toInt) : ¬ (cmpValue (FP.dcmp (FP.l2d v) (0 : UInt64)) .l) < (0 : Int32) := by
  have h0 := own_at_val (own_int own_D0)
  have hv : FP.Core.val64 (FP.l2d v) ≠ .nan := by
    obtain ⟨s, c, q, e⟩ := fin64_core.mp (l2d_fin v)
    rw [e]; nofun
  have hz := FP.Core.l2d_zval_ge (n := v) h0.1 (by rw [h0.2]; have := FP.Core.one64_pos; rw [Int.zero_mul]; exact Int.mul_nonneg h (by omega))
  rw [h0.2, Int.zero_mul] at hz
  replace hz : 0 ≤ FP.Core.zval FP.Core.b64 (FP.Core.val64 (FP.l2d v)) := hz
  rw [show FP.dcmp (FP.l2d v) 0 = _ from FP.Core.dcmp_zval hv h0.1, h0.2, Int.zero_mul]
  rcases Int.lt_or_eq_of_le hz with q | q
  · rw [show compare (FP.Core.zval FP.Core.b64 (FP.Core.val64 (FP.l2d v))) 0 = .gt from by simp only [compare, compareOfLessAndEq]; rw [if_neg (by omega), if_neg (by omega)]]; decide
  · rw [← q]; decide
theorem own_share (x : Int32) : ∃ z : Int, own_At (FP.ddiv (FP.i2d ((x &&& (255 : Int32)) + (1 : Int32))) (4643211215818981376 : UInt64)) z ∧ 0 < z ∧ z ≤ (FP.Core.one64 : Int) := by
  have b := own_maskI (x := x) (m := 255) (k := 8) (by decide) (by decide)
  have e : ((x &&& (255 : Int32)) + (1 : Int32)).toInt = (x &&& (255 : Int32)).toInt + 1 := by
    rw [Int32.toInt_add]; exact Int.bmod_eq_of_le (by show _ ≤ _ + (1 : Int); omega) (by show _ + (1 : Int) < _; omega)
  have D := FP.Core.i2d_int ((x &&& (255 : Int32)) + (1 : Int32))
  have E := own_i2dc 256 4643211215818981376 (by decide +kernel)
  rw [show (256 : Int32).toInt = 2 ^ 8 by decide] at E
  obtain ⟨S, -⟩ := own_scale D E (by omega) (by decide)
  refine ⟨_, S, ?_, ?_⟩
  · rw [e]; exact Int.mul_pos (by omega) (Int.pow_pos (by decide))
  · rw [own_U 8 (by decide), e, Int.mul_comm]
    exact Int.mul_le_mul_of_nonneg_left (by omega) (Int.le_of_lt (Int.pow_pos (by decide)))
theorem own_w6 (x : Int32) : ∃ z : Int, own_At (FP.ddiv (FP.i2d (x &&& (1048575 : Int32))) (4652218415073722368 : UInt64)) z ∧ 0 ≤ z := by
  have b := own_maskI (x := x) (m := 1048575) (k := 20) (by decide) (by decide)
  have E := own_i2dc 1024 4652218415073722368 (by decide +kernel)
  rw [show (1024 : Int32).toInt = 2 ^ 10 by decide] at E
  obtain ⟨S, -⟩ := own_scale (FP.Core.i2d_int (x &&& (1048575 : Int32))) E (by omega) (by decide)
  exact ⟨_, S, Int.mul_nonneg b.1 (Int.le_of_lt (Int.pow_pos (by decide)))⟩
theorem own_k8 (x : Int32) : (x &&& (7 : Int32)) = 0 ∨ (x &&& (7 : Int32)) = 1 ∨ (x &&& (7 : Int32)) = 2 ∨ (x &&& (7 : Int32)) = 3 ∨ (x &&& (7 : Int32)) = 4 ∨ (x &&& (7 : Int32)) = 5 ∨ (x &&& (7 : Int32)) = 6 ∨ (x &&& (7 : Int32)) = 7 := by
  have b := own_maskI (x := x) (m := 7) (k := 3) (by decide) (by decide)
  obtain ⟨k, hk, e⟩ := own_cases32 (n := 8) b.1 b.2
  rw [e]
  have H : ∀ k : Fin 8, Int32.ofNat k.1 = 0 ∨ Int32.ofNat k.1 = 1 ∨ Int32.ofNat k.1 = 2 ∨ Int32.ofNat k.1 = 3 ∨ Int32.ofNat k.1 = 4 ∨ Int32.ofNat k.1 = 5 ∨ Int32.ofNat k.1 = 6 ∨ Int32.ofNat k.1 = 7 := by decide
  exact H ⟨k, hk⟩
theorem d2_0 : decode jdk_30_method_1_code 0 = .ok (.aload_n 0, 1) := by decide +kernel
theorem d2_1 : decode jdk_30_method_1_code 1 = .ok (.invokespecial 1, 3) := by decide +kernel
theorem d2_4 : decode jdk_30_method_1_code 4 = .ok (.return_, 1) := by decide +kernel
theorem pn0 : plainName "java/lang/Record" = true := by first | (simp [plainName, overriddenIn]; done) | decide +kernel
theorem efm2 (m : MethodId) (r0 : Addr) : entryFrame m #[(.ref r0)] 1 = mkF m 0 #[.val (.ref r0)] [] := by first | (simp [entryFrame, mkF, argsToLocals, Value.category]; done) | rfl
def Qm2 (Z : State) (r0 : Addr) (h0 : Heap) (n0 : Nat) (v : Option Value) (h : Heap) (L : List Loc) : Prop := v = none ∧ Fr n0 L ∧ (h = h0)
set_option maxRecDepth 65536 in
set_option maxHeartbeats 40000000 in
theorem rmm2 (l : Launch) (Z : State) (a0 : Array Value) (hw : ∀ d ∈ tables_1, d.before a0 Z = true) (ws : List Jvm.Cond) (r0 : Addr) (h0 : Heap) (n0 : Nat) (Z0 : n0 ≤ h0.size)  :
    MetFree l (⟨"java/lang/Record", "<init>", "()V"⟩ : MethodName) (head1 (Jvm.Cond.code (⟨"java/lang/Record", "<init>", "()V"⟩ : MethodName) jdk_30_method_1_code 1 none :: ws) ({ frames := 1, cells := 0, slots := 0, locals := 12 } : Room)) (fun a U => a = #[(.ref r0)] ∧ Z.Warmed39 U.vm ∧ U.heap = h0) (fun _ _ _ _ _ => True) (fun _ U o U' => ∃ v L, o = .returned v ∧ Qm2 Z r0 h0 n0 v U'.heap L ∧ FrameEnd U o U' L ({ frames := 1, cells := 0, slots := 0, locals := 12 } : Room).cells ({ frames := 1, cells := 0, slots := 0, locals := 12 } : Room).slots) := by
  refine MetFree.of_bodySF (plainFor_of_name pn0) hisR ?_
  intro p e s m args below meth c s₁ Bd hml0 hP hK
  obtain ⟨rfl, hZ, hh⟩ := hP
  have hx := Bd.exec
  have hby := Bd.bytes
  have hml : c.maxLocals = 1 := hml0
  have hown : s.vm.findClass "java/lang/Record" = some m.cls := findClass_of_methodNamed Bd.named
  have hnm := (name_of_methodNamed Bd.named Bd.method).1
  have X0 : Stand p l e ({ frames := 1, cells := 0, slots := 0, locals := 12 } : Room) s m #[(.ref r0)] below meth c s₁ [] 0 0 := Stand.of_body Bd
  have e0 : s₁.heap = h0 := by rw [← hh, Bd.state]; rfl
  have N0 := Fr.nil n0
  have pre0 : ∀ t, Steps p.tables e below (s₁.setTop (mkF m 0 #[.val (.ref r0)] [])) t → Steps p.tables e below (s₁.setTop (entryFrame m #[(.ref r0)] 1)) t := fun t k => castTop (efm2 m r0) k
  obtain ⟨T101, X101, e101, st101⟩ := initO X0 hx hZ hown (own_w hw 14 rfl) (own_w hw 15 rfl) (own_w hw 16 rfl) e0 (g := (mkF m 1 #[.val (.ref r0)] [(.ref r0)])) rfl (by rw [hml]; rfl) rfl (hb hby d2_1) (by decide) (W := 0) (by show 2 * 0 + _ ≤ _; exact Nat.le_of_eq rfl) (by decide)
  obtain ⟨fs, hr, hrun, hended, hW, hsame⟩ := X101.leave (v := none) (fun _ => rfl)
  refine ⟨_, _, pre0 _ ?_, hrun, hended, _, _, rfl, ?_, ⟨_, rfl⟩, hW, hsame.mono (by decide) (by decide)⟩
  · show own_S p e below s₁ m 0 #[.val (.ref r0)] [] _
    refine XS.aloadN X0.here hx rfl (hb hby d2_0) rfl rfl ?_
    show own_S p e below s₁ m 1 #[.val (.ref r0)] [(.ref r0)] _
    refine st101 _ ?_
    show own_S p e below T101 m 4 #[.val (.ref r0)] [] _
    exact X101.returnOut hx Bd.returns (hb hby d2_4) hr
  · show Qm2 Z r0 h0 n0 _ T101.heap _
    rw [e101]
    exact ⟨rfl, N0, rfl⟩
theorem pd0 : parseMethodDescriptor "()V" = some ⟨[], none⟩ := by decide +kernel
theorem sn0 {Z : State} {a0 : Array Value} (hw : ∀ d ∈ tables_1, d.before a0 Z = true) : Jvm.RoadKit.slotOf Z "com/example/fireweed/fireweed/model/ServiceTarget" "maxMeanWaitS" "D" ≠ Jvm.RoadKit.slotOf Z "com/example/fireweed/fireweed/model/ServiceTarget" "servedShare" "D" := slot_ne (Or.inr (own_w hw 20 rfl)) (Or.inr (own_w hw 18 rfl)) (by decide) (t := .double) (t' := .double) (by decide) (by decide)
theorem sn1 {Z : State} {a0 : Array Value} (hw : ∀ d ∈ tables_1, d.before a0 Z = true) : Jvm.RoadKit.slotOf Z "com/example/fireweed/fireweed/model/ServiceTarget" "servedShare" "D" ≠ Jvm.RoadKit.slotOf Z "com/example/fireweed/fireweed/model/ServiceTarget" "maxMeanWaitS" "D" := slot_ne (Or.inr (own_w hw 18 rfl)) (Or.inr (own_w hw 20 rfl)) (by decide) (t := .double) (t' := .double) (by decide) (by decide)
theorem d1_0 : decode prog_60_method_1_code 0 = .ok (.aload_n 0, 1) := by decide +kernel
theorem d1_1 : decode prog_60_method_1_code 1 = .ok (.invokespecial 1, 3) := by decide +kernel
theorem d1_4 : decode prog_60_method_1_code 4 = .ok (.dload_n 1, 1) := by decide +kernel
theorem d1_5 : decode prog_60_method_1_code 5 = .ok (.dconst 0, 1) := by decide +kernel
theorem d1_6 : decode prog_60_method_1_code 6 = .ok (.dcmp .l, 1) := by decide +kernel
theorem d1_7 : decode prog_60_method_1_code 7 = .ok (.ifCond .le 9, 3) := by decide +kernel
theorem d1_10 : decode prog_60_method_1_code 10 = .ok (.dload_n 1, 1) := by decide +kernel
theorem d1_11 : decode prog_60_method_1_code 11 = .ok (.dconst 1, 1) := by decide +kernel
theorem d1_12 : decode prog_60_method_1_code 12 = .ok (.dcmp .g, 1) := by decide +kernel
theorem d1_13 : decode prog_60_method_1_code 13 = .ok (.ifCond .le 17, 3) := by decide +kernel
theorem d1_30 : decode prog_60_method_1_code 30 = .ok (.dload_n 3, 1) := by decide +kernel
theorem d1_31 : decode prog_60_method_1_code 31 = .ok (.dconst 0, 1) := by decide +kernel
theorem d1_32 : decode prog_60_method_1_code 32 = .ok (.dcmp .l, 1) := by decide +kernel
theorem d1_33 : decode prog_60_method_1_code 33 = .ok (.ifCond .ge 17, 3) := by decide +kernel
theorem d1_50 : decode prog_60_method_1_code 50 = .ok (.aload_n 0, 1) := by decide +kernel
theorem d1_51 : decode prog_60_method_1_code 51 = .ok (.dload_n 1, 1) := by decide +kernel
theorem d1_52 : decode prog_60_method_1_code 52 = .ok (.putfield 17, 3) := by decide +kernel
theorem d1_55 : decode prog_60_method_1_code 55 = .ok (.aload_n 0, 1) := by decide +kernel
theorem d1_56 : decode prog_60_method_1_code 56 = .ok (.dload_n 3, 1) := by decide +kernel
theorem d1_57 : decode prog_60_method_1_code 57 = .ok (.putfield 23, 3) := by decide +kernel
theorem d1_60 : decode prog_60_method_1_code 60 = .ok (.return_, 1) := by decide +kernel
theorem pn1 : plainName "com/example/fireweed/fireweed/model/ServiceTarget" = true := by first | (simp [plainName, overriddenIn]; done) | decide +kernel
theorem efm1 (m : MethodId) (r0 : Addr) (d1 : UInt64) (d2 : UInt64) : entryFrame m #[(.ref r0), (.double d1), (.double d2)] 5 = mkF m 0 #[.val (.ref r0), .val (.double d1), .second, .val (.double d2), .second] [] := by first | (simp [entryFrame, mkF, argsToLocals, Value.category]; done) | rfl
def Qm1 (Z : State) (r0 : Addr) (d1 : UInt64) (d2 : UInt64) (u0 : Value) (u1 : Value) (h0 : Heap) (n0 : Nat) (v : Option Value) (h : Heap) (L : List Loc) : Prop := v = none ∧ Fr n0 L ∧ (Keep h0 h [r0]) ∧ (Exa Z h r0 "com/example/fireweed/fireweed/model/ServiceTarget") ∧ (Fld Z h r0 "com/example/fireweed/fireweed/model/ServiceTarget" "servedShare" "D" (.double d1)) ∧ (Fld Z h r0 "com/example/fireweed/fireweed/model/ServiceTarget" "maxMeanWaitS" "D" (.double d2))
set_option maxRecDepth 65536 in
set_option maxHeartbeats 40000000 in
theorem rmm1 (l : Launch) (Z : State) (a0 : Array Value) (hw : ∀ d ∈ tables_1, d.before a0 Z = true) (ws : List Jvm.Cond) (r0 : Addr) (d1 : UInt64) (d2 : UInt64) (u0 : Value) (u1 : Value) (h0 : Heap) (n0 : Nat) (Z0 : n0 ≤ h0.size) (F_servedShare_r0 : Fld Z h0 r0 "com/example/fireweed/fireweed/model/ServiceTarget" "servedShare" "D" u0) (F_maxMeanWaitS_r0 : Fld Z h0 r0 "com/example/fireweed/fireweed/model/ServiceTarget" "maxMeanWaitS" "D" u1) (E_r0 : Exa Z h0 r0 "com/example/fireweed/fireweed/model/ServiceTarget") (g_r0 : n0 ≤ r0) (hc6 : cmpValue (FP.dcmp d1 (0 : UInt64)) .l = 1) (hc12 : ¬ ((0 : Int32) < (cmpValue (FP.dcmp d1 (4607182418800017408 : UInt64)) .g))) (hc32 : ¬ ((cmpValue (FP.dcmp d2 (0 : UInt64)) .l) < (0 : Int32))) :
    MetFree l (⟨"com/example/fireweed/fireweed/model/ServiceTarget", "<init>", "(DD)V"⟩ : MethodName) (head1 (Jvm.Cond.code (⟨"com/example/fireweed/fireweed/model/ServiceTarget", "<init>", "(DD)V"⟩ : MethodName) prog_60_method_1_code 5 none :: ws) ({ frames := 2, cells := 0, slots := 0, locals := 24 } : Room)) (fun a U => a = #[(.ref r0), (.double d1), (.double d2)] ∧ Z.Warmed39 U.vm ∧ U.heap = h0) (fun _ _ _ _ _ => True) (fun _ U o U' => ∃ v L, o = .returned v ∧ Qm1 Z r0 d1 d2 u0 u1 h0 n0 v U'.heap L ∧ FrameEnd U o U' L ({ frames := 2, cells := 0, slots := 0, locals := 24 } : Room).cells ({ frames := 2, cells := 0, slots := 0, locals := 24 } : Room).slots) := by
  refine MetFree.of_bodySF (plainFor_of_name pn1) hisR ?_
  intro p e s m args below meth c s₁ Bd hml0 hP hK
  obtain ⟨rfl, hZ, hh⟩ := hP
  have hx := Bd.exec
  have hby := Bd.bytes
  have hml : c.maxLocals = 5 := hml0
  have hown : s.vm.findClass "com/example/fireweed/fireweed/model/ServiceTarget" = some m.cls := findClass_of_methodNamed Bd.named
  have hnm := (name_of_methodNamed Bd.named Bd.method).1
  have X0 : Stand p l e ({ frames := 2, cells := 0, slots := 0, locals := 24 } : Room) s m #[(.ref r0), (.double d1), (.double d2)] below meth c s₁ [] 0 0 := Stand.of_body Bd
  have e0 : s₁.heap = h0 := by rw [← hh, Bd.state]; rfl
  have N0 := Fr.nil n0
  have pre0 : ∀ t, Steps p.tables e below (s₁.setTop (mkF m 0 #[.val (.ref r0), .val (.double d1), .second, .val (.double d2), .second] [])) t → Steps p.tables e below (s₁.setTop (entryFrame m #[(.ref r0), (.double d1), (.double d2)] 5)) t := fun t k => castTop (efm1 m r0 d1 d2) k
  obtain ⟨_, _, ⟨T101, L101, k101, n101⟩, -, X101, ⟨Lc101, hQ101, l101, y101, z101⟩, st101⟩ := X0.specialBack hx (y := (⟨"java/lang/Record", "<init>", "()V"⟩ : MethodName)) rfl hown (mvT hZ (own_w hw 9 rfl)) (mvT hZ (own_w hw 10 rfl)) (mvT hZ (own_w hw 13 rfl)) (by decide) (backOf (W := 0) (rmm2 l Z a0 hw [] r0 h0 n0 Z0 ) hZ (own_w hw 13 rfl) (own_w hw 12 rfl) (by decide) (by decide)) (g := (mkF m 1 #[.val (.ref r0), .val (.double d1), .second, .val (.double d2), .second] [(.ref r0)])) rfl (by rw [hml]; rfl) (Steps.refl _) (a := r0) (argsL := []) (rest := []) (lenOf pd0 rfl) rfl (by show 2 * 0 + _ ≤ _; exact Nat.le_of_eq rfl) (hb hby d1_1) (fun _ _ => ⟨rfl, e0, (by decide : 0 + 0 ≤ _), (by decide : 0 + 0 ≤ _)⟩)
  dsimp only [Pt.U, Pt.locs, Pt.cells, Pt.slots] at X101 l101 y101 z101 st101 hQ101
  subst l101 y101 z101
  obtain ⟨rfl, Nq101, P101_0⟩ := hQ101
  have N101 := Fr.app N0 Nq101
  obtain ⟨T102, h102, X102, e102, W102, st102⟩ := putF X101 hx hZ hown (host := "") (Or.inl (own_w hw 17 rfl)) Via.refl P101_0 F_servedShare_r0 E_r0 (Or.inr ⟨(own_w hw 18 rfl), rfl, hnm⟩) (own_w hw 4 rfl) (ty := .double) (by decide) rfl rfl (g := (mkF m 52 #[.val (.ref r0), .val (.double d1), .second, .val (.double d2), .second] [(.double d1), (.ref r0)])) rfl rfl (hb hby d1_52)
  have Fw102 := F_servedShare_r0.same W102
  have N102 := Fr.snoc X102 N101 g_r0
  have ZZ103 : n0 ≤ h102.size := Nat.le_trans Z0 (Nat.le_of_eq W102.size.symm)
  have KK104 : Keep h0 h102 [r0] := (Keep.refl h0 [r0]).wr W102 (Or.inl (List.mem_of_getElem? (i := 0) rfl))
  have Fc105 := (F_maxMeanWaitS_r0.other W102 (Or.inr (sn0 hw)))
  obtain ⟨T106, h106, X106, e106, W106, st106⟩ := putF X102 hx hZ hown (host := "") (Or.inl (own_w hw 19 rfl)) Via.refl e102 Fc105 (E_r0.wr W102) (Or.inr ⟨(own_w hw 20 rfl), rfl, hnm⟩) (own_w hw 4 rfl) (ty := .double) (by decide) rfl rfl (g := (mkF m 57 #[.val (.ref r0), .val (.double d1), .second, .val (.double d2), .second] [(.double d2), (.ref r0)])) rfl rfl (hb hby d1_57)
  have Fw106 := Fc105.same W106
  have N106 := Fr.snoc X106 N102 g_r0
  have ZZ107 : n0 ≤ h106.size := Nat.le_trans ZZ103 (Nat.le_of_eq W106.size.symm)
  have KK108 : Keep h0 h106 [r0] := KK104.wr W106 (Or.inl (List.mem_of_getElem? (i := 0) rfl))
  obtain ⟨fs, hr, hrun, hended, hW, hsame⟩ := X106.leave (v := none) (fun _ => rfl)
  refine ⟨_, _, pre0 _ ?_, hrun, hended, _, _, rfl, ?_, ⟨_, rfl⟩, hW, hsame.mono (by decide) (by decide)⟩
  · show own_S p e below s₁ m 0 #[.val (.ref r0), .val (.double d1), .second, .val (.double d2), .second] [] _
    refine XS.aloadN X0.here hx rfl (hb hby d1_0) rfl rfl ?_
    show own_S p e below s₁ m 1 #[.val (.ref r0), .val (.double d1), .second, .val (.double d2), .second] [(.ref r0)] _
    refine st101.trans ?_
    show own_S p e below T101 m 4 #[.val (.ref r0), .val (.double d1), .second, .val (.double d2), .second] [] _
    refine XS.dloadN X101.here hx rfl (hb hby d1_4) rfl ?_
    show own_S p e below T101 m 5 #[.val (.ref r0), .val (.double d1), .second, .val (.double d2), .second] [(.double d1)] _
    refine XS.dconst0 X101.here hx rfl (v := 0) (hb hby d1_5) rfl ?_
    show own_S p e below T101 m 6 #[.val (.ref r0), .val (.double d1), .second, .val (.double d2), .second] [(.double 0), (.double d1)] _
    refine XS.dcmpS X101.here hx rfl (v := (1 : Int32)) (hb hby d1_6) rfl hc6 ?_
    show own_S p e below T101 m 7 #[.val (.ref r0), .val (.double d1), .second, .val (.double d2), .second] [(.int 1)] _
    refine XS.ifNo X101.here hx rfl (hb hby d1_7) rfl ((if0 _ _).trans (tlt (by decide : (0 : Int32) < (1 : Int32))).2.2.2) ?_
    show own_S p e below T101 m 10 #[.val (.ref r0), .val (.double d1), .second, .val (.double d2), .second] [] _
    refine XS.dloadN X101.here hx rfl (hb hby d1_10) rfl ?_
    show own_S p e below T101 m 11 #[.val (.ref r0), .val (.double d1), .second, .val (.double d2), .second] [(.double d1)] _
    refine XS.dconst1 X101.here hx rfl (v := 4607182418800017408) (hb hby d1_11) rfl ?_
    show own_S p e below T101 m 12 #[.val (.ref r0), .val (.double d1), .second, .val (.double d2), .second] [(.double 4607182418800017408), (.double d1)] _
    refine XS.dcmpS X101.here hx rfl (v := (cmpValue (FP.dcmp d1 (4607182418800017408 : UInt64)) .g)) (hb hby d1_12) rfl rfl ?_
    show own_S p e below T101 m 13 #[.val (.ref r0), .val (.double d1), .second, .val (.double d2), .second] [(.int (cmpValue (FP.dcmp d1 (4607182418800017408 : UInt64)) .g))] _
    refine XS.ifYes X101.here hx rfl (pc0 := 13) (pc' := 30) rfl (hb hby d1_13) rfl ((if0 _ _).trans (flt (hc12 : ¬ ((0 : Int32) < (cmpValue (FP.dcmp d1 (4607182418800017408 : UInt64)) .g)))).2.2.2) (by decide) (by decide) ?_
    show own_S p e below T101 m 30 #[.val (.ref r0), .val (.double d1), .second, .val (.double d2), .second] [] _
    refine XS.dloadN X101.here hx rfl (hb hby d1_30) rfl ?_
    show own_S p e below T101 m 31 #[.val (.ref r0), .val (.double d1), .second, .val (.double d2), .second] [(.double d2)] _
    refine XS.dconst0 X101.here hx rfl (v := 0) (hb hby d1_31) rfl ?_
    show own_S p e below T101 m 32 #[.val (.ref r0), .val (.double d1), .second, .val (.double d2), .second] [(.double 0), (.double d2)] _
    refine XS.dcmpS X101.here hx rfl (v := (cmpValue (FP.dcmp d2 (0 : UInt64)) .l)) (hb hby d1_32) rfl rfl ?_
    show own_S p e below T101 m 33 #[.val (.ref r0), .val (.double d1), .second, .val (.double d2), .second] [(.int (cmpValue (FP.dcmp d2 (0 : UInt64)) .l))] _
    refine XS.ifYes X101.here hx rfl (pc0 := 33) (pc' := 50) rfl (hb hby d1_33) rfl ((if0 _ _).trans (flt (hc32 : ¬ ((cmpValue (FP.dcmp d2 (0 : UInt64)) .l) < (0 : Int32)))).2.1) (by decide) (by decide) ?_
    show own_S p e below T101 m 50 #[.val (.ref r0), .val (.double d1), .second, .val (.double d2), .second] [] _
    refine XS.aloadN X101.here hx rfl (hb hby d1_50) rfl rfl ?_
    show own_S p e below T101 m 51 #[.val (.ref r0), .val (.double d1), .second, .val (.double d2), .second] [(.ref r0)] _
    refine XS.dloadN X101.here hx rfl (hb hby d1_51) rfl ?_
    show own_S p e below T101 m 52 #[.val (.ref r0), .val (.double d1), .second, .val (.double d2), .second] [(.double d1), (.ref r0)] _
    refine st102 _ ?_
    show own_S p e below T102 m 55 #[.val (.ref r0), .val (.double d1), .second, .val (.double d2), .second] [] _
    refine XS.aloadN X102.here hx rfl (hb hby d1_55) rfl rfl ?_
    show own_S p e below T102 m 56 #[.val (.ref r0), .val (.double d1), .second, .val (.double d2), .second] [(.ref r0)] _
    refine XS.dloadN X102.here hx rfl (hb hby d1_56) rfl ?_
    show own_S p e below T102 m 57 #[.val (.ref r0), .val (.double d1), .second, .val (.double d2), .second] [(.double d2), (.ref r0)] _
    refine st106 _ ?_
    show own_S p e below T106 m 60 #[.val (.ref r0), .val (.double d1), .second, .val (.double d2), .second] [] _
    exact X106.returnOut hx Bd.returns (hb hby d1_60) hr
  · show Qm1 Z r0 d1 d2 u0 u1 h0 n0 _ T106.heap _
    rw [e106]
    exact ⟨rfl, N106, KK108, ((E_r0.wr W102).wr W106), (Fw102.other W106 (Or.inr (sn1 hw))), Fw106⟩
theorem d4_0 : decode prog_60_method_2_code 0 = .ok (.aload_n 0, 1) := by decide +kernel
theorem d4_1 : decode prog_60_method_2_code 1 = .ok (.getfield 23, 3) := by decide +kernel
theorem d4_4 : decode prog_60_method_2_code 4 = .ok (.ldc2_w 28, 3) := by decide +kernel
theorem d4_7 : decode prog_60_method_2_code 7 = .ok (.dcmp .g, 1) := by decide +kernel
theorem d4_8 : decode prog_60_method_2_code 8 = .ok (.ifCond .ge 7, 3) := by decide +kernel
theorem d4_11 : decode prog_60_method_2_code 11 = .ok (.iconst 1, 1) := by decide +kernel
theorem d4_12 : decode prog_60_method_2_code 12 = .ok (.goto 4, 3) := by decide +kernel
theorem d4_15 : decode prog_60_method_2_code 15 = .ok (.iconst 0, 1) := by decide +kernel
theorem d4_16 : decode prog_60_method_2_code 16 = .ok (.ireturn, 1) := by decide +kernel
theorem efm4 (m : MethodId) (r0 : Addr) : entryFrame m #[(.ref r0)] 1 = mkF m 0 #[.val (.ref r0)] [] := by first | (simp [entryFrame, mkF, argsToLocals, Value.category]; done) | rfl
def Qm4 (Z : State) (r0 : Addr) (w : UInt64) (h0 : Heap) (n0 : Nat) (v : Option Value) (h : Heap) (L : List Loc) : Prop := v = some (.int (own_rch w)) ∧ Fr n0 L ∧ (h = h0)
set_option maxRecDepth 65536 in
set_option maxHeartbeats 40000000 in
theorem rmm4 (l : Launch) (Z : State) (a0 : Array Value) (hw : ∀ d ∈ tables_1, d.before a0 Z = true) (ws : List Jvm.Cond) (r0 : Addr) (w : UInt64) (h0 : Heap) (n0 : Nat) (Z0 : n0 ≤ h0.size) (F_maxMeanWaitS_r0 : Fld Z h0 r0 "com/example/fireweed/fireweed/model/ServiceTarget" "maxMeanWaitS" "D" (.double w)) :
    MetFree l (⟨"com/example/fireweed/fireweed/model/ServiceTarget", "capsWait", "()Z"⟩ : MethodName) (head1 (Jvm.Cond.code (⟨"com/example/fireweed/fireweed/model/ServiceTarget", "capsWait", "()Z"⟩ : MethodName) prog_60_method_2_code 1 (some .boolean) :: ws) ({ frames := 0, cells := 0, slots := 0, locals := 0 } : Room)) (fun a U => a = #[(.ref r0)] ∧ Z.Warmed39 U.vm ∧ U.heap = h0) (fun _ _ _ _ _ => True) (fun _ U o U' => ∃ v L, o = .returned v ∧ Qm4 Z r0 w h0 n0 v U'.heap L ∧ FrameEnd U o U' L ({ frames := 0, cells := 0, slots := 0, locals := 0 } : Room).cells ({ frames := 0, cells := 0, slots := 0, locals := 0 } : Room).slots) := by
  refine MetFree.of_bodySF (plainFor_of_name pn1) hisR ?_
  intro p e s m args below meth c s₁ Bd hml0 hP hK
  obtain ⟨rfl, hZ, hh⟩ := hP
  have hx := Bd.exec
  have hby := Bd.bytes
  have hml : c.maxLocals = 1 := hml0
  have hown : s.vm.findClass "com/example/fireweed/fireweed/model/ServiceTarget" = some m.cls := findClass_of_methodNamed Bd.named
  have hnm := (name_of_methodNamed Bd.named Bd.method).1
  have X0 : Stand p l e ({ frames := 0, cells := 0, slots := 0, locals := 0 } : Room) s m #[(.ref r0)] below meth c s₁ [] 0 0 := Stand.of_body Bd
  have e0 : s₁.heap = h0 := by rw [← hh, Bd.state]; rfl
  have N0 := Fr.nil n0
  have pre0 : ∀ t, Steps p.tables e below (s₁.setTop (mkF m 0 #[.val (.ref r0)] [])) t → Steps p.tables e below (s₁.setTop (entryFrame m #[(.ref r0)] 1)) t := fun t k => castTop (efm4 m r0) k
  obtain ⟨T101, X101, e101, st101⟩ := getF X0 hx hZ hown (host := "") (Or.inl (own_w hw 19 rfl)) Via.refl e0 F_maxMeanWaitS_r0 (g := (mkF m 1 #[.val (.ref r0)] [(.ref r0)])) rfl rfl (hb hby d4_1)
  have pre102 : ∀ t, Steps p.tables e below (T101.setTop (mkF m 8 #[.val (.ref r0)] [(.int (cmpValue (FP.dcmp w (9218868437227405312 : UInt64)) .g))])) t → Steps p.tables e below (s₁.setTop (mkF m 0 #[.val (.ref r0)] [])) t := by
    intro t kt
    show own_S p e below s₁ m 0 #[.val (.ref r0)] [] _
    refine XS.aloadN X0.here hx rfl (hb hby d4_0) rfl rfl ?_
    show own_S p e below s₁ m 1 #[.val (.ref r0)] [(.ref r0)] _
    refine st101 _ ?_
    show own_S p e below T101 m 4 #[.val (.ref r0)] [(.double w)] _
    refine X101.ldc2DoubleC hx hown (mvT hZ (own_w hw 26 rfl)) (g := (mkF m 4 #[.val (.ref r0)] [(.double w)])) rfl (hb hby d4_4) _ ?_
    show own_S p e below T101 m 7 #[.val (.ref r0)] [(.double 9218868437227405312), (.double w)] _
    refine XS.dcmpS X101.here hx rfl (v := (cmpValue (FP.dcmp w (9218868437227405312 : UInt64)) .g)) (hb hby d4_7) rfl rfl ?_
    exact kt
  by_cases hl : (cmpValue (FP.dcmp w (9218868437227405312 : UInt64)) .g) < (0 : Int32)
  · skip
    obtain ⟨fs, hr, hrun, hended, hW, hsame⟩ := X101.leave (v := some (.int 1)) (fun h => by rw [Bd.returns] at h; cases h)
    refine ⟨_, _, pre0 _ (pre102 _ ?_), hrun, hended, _, _, rfl, ?_, ⟨_, rfl⟩, hW, hsame.mono (by decide) (by decide)⟩
    · show own_S p e below T101 m 8 #[.val (.ref r0)] [(.int (cmpValue (FP.dcmp w (9218868437227405312 : UInt64)) .g))] _
      refine XS.ifNo X101.here hx rfl (hb hby d4_8) rfl ((if0 _ _).trans (tlt (hl : (cmpValue (FP.dcmp w (9218868437227405312 : UInt64)) .g) < (0 : Int32))).2.1) ?_
      show own_S p e below T101 m 11 #[.val (.ref r0)] [] _
      refine XS.iconst X101.here hx rfl (hb hby d4_11) ?_
      show own_S p e below T101 m 12 #[.val (.ref r0)] [(.int 1)] _
      refine XS.goto X101.here hx rfl (pc0 := 12) (pc' := 16) rfl (hb hby d4_12) (by decide) (by decide) ?_
      show own_S p e below T101 m 16 #[.val (.ref r0)] [(.int 1)] _
      exact retN X101 hx (t := .boolean) Bd.returns (by simp) (hb hby d4_16) hr
    · show Qm4 Z r0 w h0 n0 _ T101.heap _
      rw [e101]
      exact ⟨(by simp [own_rch, hl]), N0, rfl⟩
  · skip
    obtain ⟨fs, hr, hrun, hended, hW, hsame⟩ := X101.leave (v := some (.int 0)) (fun h => by rw [Bd.returns] at h; cases h)
    refine ⟨_, _, pre0 _ (pre102 _ ?_), hrun, hended, _, _, rfl, ?_, ⟨_, rfl⟩, hW, hsame.mono (by decide) (by decide)⟩
    · show own_S p e below T101 m 8 #[.val (.ref r0)] [(.int (cmpValue (FP.dcmp w (9218868437227405312 : UInt64)) .g))] _
      refine XS.ifYes X101.here hx rfl (pc0 := 8) (pc' := 15) rfl (hb hby d4_8) rfl ((if0 _ _).trans (flt (hl : ¬ ((cmpValue (FP.dcmp w (9218868437227405312 : UInt64)) .g) < (0 : Int32)))).2.1) (by decide) (by decide) ?_
      show own_S p e below T101 m 15 #[.val (.ref r0)] [] _
      refine XS.iconst X101.here hx rfl (hb hby d4_15) ?_
      show own_S p e below T101 m 16 #[.val (.ref r0)] [(.int 0)] _
      exact retN X101 hx (t := .boolean) Bd.returns (by simp) (hb hby d4_16) hr
    · show Qm4 Z r0 w h0 n0 _ T101.heap _
      rw [e101]
      exact ⟨(by simp [own_rch, hl]), N0, rfl⟩
theorem pd1 : parseMethodDescriptor "(DD)V" = some ⟨[.double, .double], none⟩ := by decide +kernel
theorem pd2 : parseMethodDescriptor "()Z" = some ⟨[], some .boolean⟩ := by decide +kernel
theorem pn2 : plainName "com/example/fireweed/fireweed/model/ServiceTargetCapsWaitPinLaw" = true := by first | (simp [plainName, overriddenIn]; done) | decide +kernel
theorem efm0 (m : MethodId) (p0 : Int32) (p1 : Int32) (p2 : Int32) (q3 : Int64) : entryFrame m #[(.int p0), (.int p1), (.int p2), (.long q3)] maxLocals = mkF m 0 #[.val (.int p0), .val (.int p1), .val (.int p2), .val (.long q3), .second, .unset, .unset, .unset, .unset, .unset, .unset, .unset, .unset, .unset] [] := by first | (simp [entryFrame, mkF, argsToLocals, Value.category, maxLocals]; done) | rfl
def Qm0 (Z : State) (p0 : Int32) (p1 : Int32) (p2 : Int32) (q3 : Int64) (h0 : Heap) (n0 : Nat) (v : Option Value) (h : Heap) (L : List Loc) : Prop := v = some (.int 1) ∧ Fr n0 L
set_option maxRecDepth 65536 in
set_option maxHeartbeats 40000000 in
theorem rmm0 (l : Launch) (Z : State) (a0 : Array Value) (hw : ∀ d ∈ tables_1, d.before a0 Z = true) (ws : List Jvm.Cond) (p0 : Int32) (p1 : Int32) (p2 : Int32) (q3 : Int64) (h0 : Heap) (n0 : Nat) (Z0 : n0 ≤ h0.size)  :
    MetFree l x (head1 (Jvm.Cond.code x code maxLocals ret :: ws) room_1) (fun a U => a = #[(.int p0), (.int p1), (.int p2), (.long q3)] ∧ Z.Warmed39 U.vm ∧ U.heap = h0) (fun _ _ _ _ _ => True) (fun _ U o U' => ∃ v L, o = .returned v ∧ Qm0 Z p0 p1 p2 q3 h0 n0 v U'.heap L ∧ FrameEnd U o U' L room_1.cells room_1.slots) := by
  refine MetFree.of_bodySF (plainFor_of_name pn2) hisR ?_
  intro p e s m args below meth c s₁ Bd hml0 hP hK
  obtain ⟨rfl, hZ, hh⟩ := hP
  have hx := Bd.exec
  have hby := Bd.bytes
  have hml : c.maxLocals = 14 := hml0
  have hown : s.vm.findClass "com/example/fireweed/fireweed/model/ServiceTargetCapsWaitPinLaw" = some m.cls := findClass_of_methodNamed Bd.named
  have hnm := (name_of_methodNamed Bd.named Bd.method).1
  have X0 : Stand p l e room_1 s m #[(.int p0), (.int p1), (.int p2), (.long q3)] below meth c s₁ [] 0 0 := Stand.of_body Bd
  have e0 : s₁.heap = h0 := by rw [← hh, Bd.state]; rfl
  have N0 := Fr.nil n0
  have pre0 : ∀ t, Steps p.tables e below (s₁.setTop (mkF m 0 #[.val (.int p0), .val (.int p1), .val (.int p2), .val (.long q3), .second, .unset, .unset, .unset, .unset, .unset, .unset, .unset, .unset, .unset] [])) t → Steps p.tables e below (s₁.setTop (entryFrame m #[(.int p0), (.int p1), (.int p2), (.long q3)] maxLocals)) t := fun t k => castTop (efm0 m p0 p1 p2 q3) k
  obtain ⟨zs, hzs, hz1, hz2⟩ := own_share p0
  have hs6 : cmpValue (FP.dcmp (FP.ddiv (FP.i2d ((p0 &&& (255 : Int32)) + (1 : Int32))) (4643211215818981376 : UInt64)) (0 : UInt64)) .l = 1 := by rw [own_cmpV hzs (own_int own_D0), if_neg (by omega), if_neg (by omega)]
  have D1c := own_i2dc 1 4607182418800017408 (by decide +kernel)
  have hs12 : ¬ ((0 : Int32) < (cmpValue (FP.dcmp (FP.ddiv (FP.i2d ((p0 &&& (255 : Int32)) + (1 : Int32))) (4643211215818981376 : UInt64)) (4607182418800017408 : UInt64)) .g)) := by
    rw [own_cmpV hzs (own_int D1c), show (1 : Int32).toInt = 1 by decide, Int.one_mul]
    split <;> (try split) <;> first | decide | omega
  have pre101 : ∀ t, Steps p.tables e below (s₁.setTop (mkF m 18 #[.val (.int p0), .val (.int p1), .val (.int p2), .val (.long q3), .second, .val (.double (FP.ddiv (FP.i2d ((p0 &&& (255 : Int32)) + (1 : Int32))) (4643211215818981376 : UInt64))), .second, .unset, .unset, .unset, .unset, .unset, .unset, .unset] [(.int (p1 &&& (7 : Int32)))])) t → Steps p.tables e below (s₁.setTop (mkF m 0 #[.val (.int p0), .val (.int p1), .val (.int p2), .val (.long q3), .second, .unset, .unset, .unset, .unset, .unset, .unset, .unset, .unset, .unset] [])) t := by
    intro t kt
    show own_S p e below s₁ m 0 #[.val (.int p0), .val (.int p1), .val (.int p2), .val (.long q3), .second, .unset, .unset, .unset, .unset, .unset, .unset, .unset, .unset, .unset] [] _
    refine XS.iloadN X0.here hx rfl (hb hby at_0) rfl ?_
    show own_S p e below s₁ m 1 #[.val (.int p0), .val (.int p1), .val (.int p2), .val (.long q3), .second, .unset, .unset, .unset, .unset, .unset, .unset, .unset, .unset, .unset] [(.int p0)] _
    refine XS.sipush X0.here hx rfl (hb hby at_1) ?_
    show own_S p e below s₁ m 4 #[.val (.int p0), .val (.int p1), .val (.int p2), .val (.long q3), .second, .unset, .unset, .unset, .unset, .unset, .unset, .unset, .unset, .unset] [(.int 255), (.int p0)] _
    refine XS.iand X0.here hx rfl (hb hby at_4) rfl ?_
    show own_S p e below s₁ m 5 #[.val (.int p0), .val (.int p1), .val (.int p2), .val (.long q3), .second, .unset, .unset, .unset, .unset, .unset, .unset, .unset, .unset, .unset] [(.int (p0 &&& (255 : Int32)))] _
    refine XS.iconst X0.here hx rfl (hb hby at_5) ?_
    show own_S p e below s₁ m 6 #[.val (.int p0), .val (.int p1), .val (.int p2), .val (.long q3), .second, .unset, .unset, .unset, .unset, .unset, .unset, .unset, .unset, .unset] [(.int 1), (.int (p0 &&& (255 : Int32)))] _
    refine XS.iadd X0.here hx rfl (hb hby at_6) rfl ?_
    show own_S p e below s₁ m 7 #[.val (.int p0), .val (.int p1), .val (.int p2), .val (.long q3), .second, .unset, .unset, .unset, .unset, .unset, .unset, .unset, .unset, .unset] [(.int ((p0 &&& (255 : Int32)) + (1 : Int32)))] _
    refine XS.i2dS X0.here hx rfl (v := (FP.i2d ((p0 &&& (255 : Int32)) + (1 : Int32)))) (hb hby at_7) rfl rfl ?_
    show own_S p e below s₁ m 8 #[.val (.int p0), .val (.int p1), .val (.int p2), .val (.long q3), .second, .unset, .unset, .unset, .unset, .unset, .unset, .unset, .unset, .unset] [(.double (FP.i2d ((p0 &&& (255 : Int32)) + (1 : Int32))))] _
    refine X0.ldc2DoubleC hx hown (mvT hZ (own_w hw 0 rfl)) (g := (mkF m 8 #[.val (.int p0), .val (.int p1), .val (.int p2), .val (.long q3), .second, .unset, .unset, .unset, .unset, .unset, .unset, .unset, .unset, .unset] [(.double (FP.i2d ((p0 &&& (255 : Int32)) + (1 : Int32))))])) rfl (hb hby at_8) _ ?_
    show own_S p e below s₁ m 11 #[.val (.int p0), .val (.int p1), .val (.int p2), .val (.long q3), .second, .unset, .unset, .unset, .unset, .unset, .unset, .unset, .unset, .unset] [(.double 4643211215818981376), (.double (FP.i2d ((p0 &&& (255 : Int32)) + (1 : Int32))))] _
    refine XS.ddivS X0.here hx rfl (v := (FP.ddiv (FP.i2d ((p0 &&& (255 : Int32)) + (1 : Int32))) (4643211215818981376 : UInt64))) (hb hby at_11) rfl (own_at_nn hzs) rfl ?_
    show own_S p e below s₁ m 12 #[.val (.int p0), .val (.int p1), .val (.int p2), .val (.long q3), .second, .unset, .unset, .unset, .unset, .unset, .unset, .unset, .unset, .unset] [(.double (FP.ddiv (FP.i2d ((p0 &&& (255 : Int32)) + (1 : Int32))) (4643211215818981376 : UInt64)))] _
    refine XS.dstore X0.here hx rfl (hb hby at_12) rfl (l' := #[.val (.int p0), .val (.int p1), .val (.int p2), .val (.long q3), .second, .val (.double (FP.ddiv (FP.i2d ((p0 &&& (255 : Int32)) + (1 : Int32))) (4643211215818981376 : UInt64))), .second, .unset, .unset, .unset, .unset, .unset, .unset, .unset]) rfl ?_
    show own_S p e below s₁ m 14 #[.val (.int p0), .val (.int p1), .val (.int p2), .val (.long q3), .second, .val (.double (FP.ddiv (FP.i2d ((p0 &&& (255 : Int32)) + (1 : Int32))) (4643211215818981376 : UInt64))), .second, .unset, .unset, .unset, .unset, .unset, .unset, .unset] [] _
    refine XS.iloadN X0.here hx rfl (hb hby at_14) rfl ?_
    show own_S p e below s₁ m 15 #[.val (.int p0), .val (.int p1), .val (.int p2), .val (.long q3), .second, .val (.double (FP.ddiv (FP.i2d ((p0 &&& (255 : Int32)) + (1 : Int32))) (4643211215818981376 : UInt64))), .second, .unset, .unset, .unset, .unset, .unset, .unset, .unset] [(.int p1)] _
    refine XS.bipush X0.here hx rfl (hb hby at_15) ?_
    show own_S p e below s₁ m 17 #[.val (.int p0), .val (.int p1), .val (.int p2), .val (.long q3), .second, .val (.double (FP.ddiv (FP.i2d ((p0 &&& (255 : Int32)) + (1 : Int32))) (4643211215818981376 : UInt64))), .second, .unset, .unset, .unset, .unset, .unset, .unset, .unset] [(.int 7), (.int p1)] _
    refine XS.iand X0.here hx rfl (hb hby at_17) rfl ?_
    exact kt
  rcases own_k8 p1 with hk | hk | hk | hk | hk | hk | hk | hk
  · skip
    obtain ⟨T102, h102, X102, e102, E102, A102, D102, -, st102⟩ := newO X0 hx hZ hown (own_w hw 3 rfl) (own_w hw 4 rfl) (own_w hw 5 rfl) e0 (g := (mkF m 130 #[.val (.int p0), .val (.int p1), .val (.int p2), .val (.long q3), .second, .val (.double (FP.ddiv (FP.i2d ((p0 &&& (255 : Int32)) + (1 : Int32))) (4643211215818981376 : UInt64))), .second, .val (.int 0), .val (.double 9218868437227405312), .second, .val (.double 9218868437227405312), .second, .unset, .unset] [])) rfl (hb hby at_130) (by decide) (by decide)
    obtain ⟨b102, g102⟩ : ∃ z, z = h0.size := ⟨_, rfl⟩
    rw [← g102] at A102 D102 st102
    have g_b102 : n0 ≤ b102 := Nat.le_trans Z0 (Nat.le_of_eq g102.symm)
    have ZZ103 : n0 ≤ h102.size := Nat.le_trans Z0 E102.1
    have F_servedShare_b102 : Fld Z h102 b102 "com/example/fireweed/fireweed/model/ServiceTarget" "servedShare" "D" (.double 0) := D102 (Or.inr (own_w hw 18 rfl)) (ty := .double) (by decide)
    have F_maxMeanWaitS_b102 : Fld Z h102 b102 "com/example/fireweed/fireweed/model/ServiceTarget" "maxMeanWaitS" "D" (.double 0) := D102 (Or.inr (own_w hw 20 rfl)) (ty := .double) (by decide)
    obtain ⟨_, _, ⟨T104, L104, k104, n104⟩, -, X104, ⟨Lc104, hQ104, l104, y104, z104⟩, st104⟩ := X102.specialBack hx (y := (⟨"com/example/fireweed/fireweed/model/ServiceTarget", "<init>", "(DD)V"⟩ : MethodName)) rfl hown (mvT hZ (own_w hw 6 rfl)) (mvT hZ (own_w hw 7 rfl)) (mvT hZ (own_w hw 8 rfl)) (by decide) (backOf (W := 1) (rmm1 l Z a0 hw [] b102 (FP.ddiv (FP.i2d ((p0 &&& (255 : Int32)) + (1 : Int32))) (4643211215818981376 : UInt64)) (9218868437227405312 : UInt64) (.double 0) (.double 0) h102 n0 ZZ103 F_servedShare_b102 F_maxMeanWaitS_b102 A102 g_b102 hs6 hs12 (by decide +kernel)) hZ (own_w hw 8 rfl) (own_w hw 5 rfl) (by decide) (by decide)) (g := (mkF m 138 #[.val (.int p0), .val (.int p1), .val (.int p2), .val (.long q3), .second, .val (.double (FP.ddiv (FP.i2d ((p0 &&& (255 : Int32)) + (1 : Int32))) (4643211215818981376 : UInt64))), .second, .val (.int 0), .val (.double 9218868437227405312), .second, .val (.double 9218868437227405312), .second, .unset, .unset] [(.double 9218868437227405312), (.double (FP.ddiv (FP.i2d ((p0 &&& (255 : Int32)) + (1 : Int32))) (4643211215818981376 : UInt64))), (.ref b102), (.ref b102)])) rfl (by rw [hml]; rfl) (Steps.refl _) (a := b102) (argsL := [(.double (FP.ddiv (FP.i2d ((p0 &&& (255 : Int32)) + (1 : Int32))) (4643211215818981376 : UInt64))), (.double 9218868437227405312)]) (rest := [(.ref b102)]) (lenOf pd1 rfl) rfl (by show 2 * 0 + _ ≤ _; exact Nat.le_of_eq rfl) (hb hby at_138) (fun _ _ => ⟨rfl, e102, (by decide : 1 + 0 ≤ _), (by decide : 2 + 0 ≤ _)⟩)
    dsimp only [Pt.U, Pt.locs, Pt.cells, Pt.slots] at X104 l104 y104 z104 st104 hQ104
    subst l104 y104 z104
    obtain ⟨rfl, Nq104, P104_0, P104_1, P104_2, P104_3⟩ := hQ104
    have N104 := Fr.app N0 Nq104
    have ZZ105 : n0 ≤ T104.heap.size := Nat.le_trans ZZ103 P104_0.1
    obtain ⟨cq106, kq106, q106a, q106b, q106c⟩ := isOf hZ rfl P104_1
    obtain ⟨_, _, ⟨T106, L106, k106, n106⟩, -, X106, ⟨Lc106, hQ106, l106, y106, z106⟩, st106⟩ := X104.virtualBack hx (y := (⟨"com/example/fireweed/fireweed/model/ServiceTarget", "capsWait", "()Z"⟩ : MethodName)) (z := (⟨"com/example/fireweed/fireweed/model/ServiceTarget", "capsWait", "()Z"⟩ : MethodName)) hown (mvT hZ (own_w hw 21 rfl)) (mvT hZ (own_w hw 22 rfl)) (notFace_of_selects (args := #[]) (mvT hZ (own_w hw 24 rfl))) (mvT hZ (own_w hw 24 rfl)) (mvT hZ (own_w hw 23 rfl)) (by decide) (backOf (W := 0) (rmm4 l Z a0 hw [] b102 (9218868437227405312 : UInt64) T104.heap n0 ZZ105 P104_3) hZ (own_w hw 25 rfl) (own_w hw 5 rfl) (by decide) (by decide)) q106a q106c (g := (mkF m 164 #[.val (.int p0), .val (.int p1), .val (.int p2), .val (.long q3), .second, .val (.double (FP.ddiv (FP.i2d ((p0 &&& (255 : Int32)) + (1 : Int32))) (4643211215818981376 : UInt64))), .second, .val (.int 0), .val (.double 9218868437227405312), .second, .val (.double 9218868437227405312), .second, .val (.ref b102), .val (.int 0)] [(.ref b102)])) rfl (by rw [hml]; rfl) (Steps.refl _) (argsL := []) (rest := []) (lenOf pd2 rfl) rfl (by show 2 * 0 + _ ≤ _; exact Nat.le_of_eq rfl) (hb hby at_164) (fun _ _ => ⟨rfl, rfl, (by decide : 1 + 0 ≤ _), (by decide : 2 + 0 ≤ _)⟩)
    dsimp only [Pt.U, Pt.locs, Pt.cells, Pt.slots] at X106 l106 y106 z106 st106 hQ106
    subst l106 y106 z106
    obtain ⟨rfl, Nq106, P106_0⟩ := hQ106
    have N106 := Fr.app N104 Nq106
    obtain ⟨fs, hr, hrun, hended, hW, hsame⟩ := X106.leave (v := some (.int 1)) (fun h => by rw [Bd.returns] at h; cases h)
    refine ⟨_, _, pre0 _ (pre101 _ ?_), hrun, hended, _, _, rfl, ?_, ⟨_, rfl⟩, hW, hsame.mono (by decide) (by decide)⟩
    · show own_S p e below s₁ m 18 #[.val (.int p0), .val (.int p1), .val (.int p2), .val (.long q3), .second, .val (.double (FP.ddiv (FP.i2d ((p0 &&& (255 : Int32)) + (1 : Int32))) (4643211215818981376 : UInt64))), .second, .unset, .unset, .unset, .unset, .unset, .unset, .unset] [(.int (p1 &&& (7 : Int32)))] _
      refine reI (hk : (p1 &&& (7 : Int32)) = (0 : Int32)) ?_
      show own_S p e below s₁ m 18 #[.val (.int p0), .val (.int p1), .val (.int p2), .val (.long q3), .second, .val (.double (FP.ddiv (FP.i2d ((p0 &&& (255 : Int32)) + (1 : Int32))) (4643211215818981376 : UInt64))), .second, .unset, .unset, .unset, .unset, .unset, .unset, .unset] [(.int 0)] _
      refine XS.istore X0.here hx rfl (hb hby at_18) rfl (l' := #[.val (.int p0), .val (.int p1), .val (.int p2), .val (.long q3), .second, .val (.double (FP.ddiv (FP.i2d ((p0 &&& (255 : Int32)) + (1 : Int32))) (4643211215818981376 : UInt64))), .second, .val (.int 0), .unset, .unset, .unset, .unset, .unset, .unset]) rfl ?_
      show own_S p e below s₁ m 20 #[.val (.int p0), .val (.int p1), .val (.int p2), .val (.long q3), .second, .val (.double (FP.ddiv (FP.i2d ((p0 &&& (255 : Int32)) + (1 : Int32))) (4643211215818981376 : UInt64))), .second, .val (.int 0), .unset, .unset, .unset, .unset, .unset, .unset] [] _
      refine X0.ldc2DoubleC hx hown (mvT hZ (own_w hw 1 rfl)) (g := (mkF m 20 #[.val (.int p0), .val (.int p1), .val (.int p2), .val (.long q3), .second, .val (.double (FP.ddiv (FP.i2d ((p0 &&& (255 : Int32)) + (1 : Int32))) (4643211215818981376 : UInt64))), .second, .val (.int 0), .unset, .unset, .unset, .unset, .unset, .unset] [])) rfl (hb hby at_20) _ ?_
      show own_S p e below s₁ m 23 #[.val (.int p0), .val (.int p1), .val (.int p2), .val (.long q3), .second, .val (.double (FP.ddiv (FP.i2d ((p0 &&& (255 : Int32)) + (1 : Int32))) (4643211215818981376 : UInt64))), .second, .val (.int 0), .unset, .unset, .unset, .unset, .unset, .unset] [(.double 9218868437227405312)] _
      refine XS.dstore X0.here hx rfl (hb hby at_23) rfl (l' := #[.val (.int p0), .val (.int p1), .val (.int p2), .val (.long q3), .second, .val (.double (FP.ddiv (FP.i2d ((p0 &&& (255 : Int32)) + (1 : Int32))) (4643211215818981376 : UInt64))), .second, .val (.int 0), .val (.double 9218868437227405312), .second, .unset, .unset, .unset, .unset]) rfl ?_
      show own_S p e below s₁ m 25 #[.val (.int p0), .val (.int p1), .val (.int p2), .val (.long q3), .second, .val (.double (FP.ddiv (FP.i2d ((p0 &&& (255 : Int32)) + (1 : Int32))) (4643211215818981376 : UInt64))), .second, .val (.int 0), .val (.double 9218868437227405312), .second, .unset, .unset, .unset, .unset] [] _
      refine XS.iload X0.here hx rfl (hb hby at_25) rfl ?_
      show own_S p e below s₁ m 27 #[.val (.int p0), .val (.int p1), .val (.int p2), .val (.long q3), .second, .val (.double (FP.ddiv (FP.i2d ((p0 &&& (255 : Int32)) + (1 : Int32))) (4643211215818981376 : UInt64))), .second, .val (.int 0), .val (.double 9218868437227405312), .second, .unset, .unset, .unset, .unset] [(.int 0)] _
      refine XS.ifYes X0.here hx rfl (pc0 := 27) (pc' := 37) rfl (hb hby at_27) rfl ((if0 _ _).trans (teq (by decide : (0 : Int32) = (0 : Int32))).1) (by decide) (by decide) ?_
      show own_S p e below s₁ m 37 #[.val (.int p0), .val (.int p1), .val (.int p2), .val (.long q3), .second, .val (.double (FP.ddiv (FP.i2d ((p0 &&& (255 : Int32)) + (1 : Int32))) (4643211215818981376 : UInt64))), .second, .val (.int 0), .val (.double 9218868437227405312), .second, .unset, .unset, .unset, .unset] [] _
      refine XS.dload X0.here hx rfl (hb hby at_37) rfl ?_
      show own_S p e below s₁ m 39 #[.val (.int p0), .val (.int p1), .val (.int p2), .val (.long q3), .second, .val (.double (FP.ddiv (FP.i2d ((p0 &&& (255 : Int32)) + (1 : Int32))) (4643211215818981376 : UInt64))), .second, .val (.int 0), .val (.double 9218868437227405312), .second, .unset, .unset, .unset, .unset] [(.double 9218868437227405312)] _
      refine XS.dstore X0.here hx rfl (hb hby at_39) rfl (l' := #[.val (.int p0), .val (.int p1), .val (.int p2), .val (.long q3), .second, .val (.double (FP.ddiv (FP.i2d ((p0 &&& (255 : Int32)) + (1 : Int32))) (4643211215818981376 : UInt64))), .second, .val (.int 0), .val (.double 9218868437227405312), .second, .val (.double 9218868437227405312), .second, .unset, .unset]) rfl ?_
      show own_S p e below s₁ m 41 #[.val (.int p0), .val (.int p1), .val (.int p2), .val (.long q3), .second, .val (.double (FP.ddiv (FP.i2d ((p0 &&& (255 : Int32)) + (1 : Int32))) (4643211215818981376 : UInt64))), .second, .val (.int 0), .val (.double 9218868437227405312), .second, .val (.double 9218868437227405312), .second, .unset, .unset] [] _
      refine XS.goto X0.here hx rfl (pc0 := 41) (pc' := 130) rfl (hb hby at_41) (by decide) (by decide) ?_
      show own_S p e below s₁ m 130 #[.val (.int p0), .val (.int p1), .val (.int p2), .val (.long q3), .second, .val (.double (FP.ddiv (FP.i2d ((p0 &&& (255 : Int32)) + (1 : Int32))) (4643211215818981376 : UInt64))), .second, .val (.int 0), .val (.double 9218868437227405312), .second, .val (.double 9218868437227405312), .second, .unset, .unset] [] _
      refine st102 _ ?_
      show own_S p e below T102 m 133 #[.val (.int p0), .val (.int p1), .val (.int p2), .val (.long q3), .second, .val (.double (FP.ddiv (FP.i2d ((p0 &&& (255 : Int32)) + (1 : Int32))) (4643211215818981376 : UInt64))), .second, .val (.int 0), .val (.double 9218868437227405312), .second, .val (.double 9218868437227405312), .second, .unset, .unset] [(.ref b102)] _
      refine XS.dup X102.here hx rfl (hb hby at_133) rfl rfl ?_
      show own_S p e below T102 m 134 #[.val (.int p0), .val (.int p1), .val (.int p2), .val (.long q3), .second, .val (.double (FP.ddiv (FP.i2d ((p0 &&& (255 : Int32)) + (1 : Int32))) (4643211215818981376 : UInt64))), .second, .val (.int 0), .val (.double 9218868437227405312), .second, .val (.double 9218868437227405312), .second, .unset, .unset] [(.ref b102), (.ref b102)] _
      refine XS.dload X102.here hx rfl (hb hby at_134) rfl ?_
      show own_S p e below T102 m 136 #[.val (.int p0), .val (.int p1), .val (.int p2), .val (.long q3), .second, .val (.double (FP.ddiv (FP.i2d ((p0 &&& (255 : Int32)) + (1 : Int32))) (4643211215818981376 : UInt64))), .second, .val (.int 0), .val (.double 9218868437227405312), .second, .val (.double 9218868437227405312), .second, .unset, .unset] [(.double (FP.ddiv (FP.i2d ((p0 &&& (255 : Int32)) + (1 : Int32))) (4643211215818981376 : UInt64))), (.ref b102), (.ref b102)] _
      refine XS.dload X102.here hx rfl (hb hby at_136) rfl ?_
      show own_S p e below T102 m 138 #[.val (.int p0), .val (.int p1), .val (.int p2), .val (.long q3), .second, .val (.double (FP.ddiv (FP.i2d ((p0 &&& (255 : Int32)) + (1 : Int32))) (4643211215818981376 : UInt64))), .second, .val (.int 0), .val (.double 9218868437227405312), .second, .val (.double 9218868437227405312), .second, .unset, .unset] [(.double 9218868437227405312), (.double (FP.ddiv (FP.i2d ((p0 &&& (255 : Int32)) + (1 : Int32))) (4643211215818981376 : UInt64))), (.ref b102), (.ref b102)] _
      refine st104.trans ?_
      show own_S p e below T104 m 141 #[.val (.int p0), .val (.int p1), .val (.int p2), .val (.long q3), .second, .val (.double (FP.ddiv (FP.i2d ((p0 &&& (255 : Int32)) + (1 : Int32))) (4643211215818981376 : UInt64))), .second, .val (.int 0), .val (.double 9218868437227405312), .second, .val (.double 9218868437227405312), .second, .unset, .unset] [(.ref b102)] _
      refine XS.astore X104.here hx rfl (hb hby at_141) rfl rfl (l' := #[.val (.int p0), .val (.int p1), .val (.int p2), .val (.long q3), .second, .val (.double (FP.ddiv (FP.i2d ((p0 &&& (255 : Int32)) + (1 : Int32))) (4643211215818981376 : UInt64))), .second, .val (.int 0), .val (.double 9218868437227405312), .second, .val (.double 9218868437227405312), .second, .val (.ref b102), .unset]) rfl ?_
      show own_S p e below T104 m 143 #[.val (.int p0), .val (.int p1), .val (.int p2), .val (.long q3), .second, .val (.double (FP.ddiv (FP.i2d ((p0 &&& (255 : Int32)) + (1 : Int32))) (4643211215818981376 : UInt64))), .second, .val (.int 0), .val (.double 9218868437227405312), .second, .val (.double 9218868437227405312), .second, .val (.ref b102), .unset] [] _
      refine XS.iload X104.here hx rfl (hb hby at_143) rfl ?_
      show own_S p e below T104 m 145 #[.val (.int p0), .val (.int p1), .val (.int p2), .val (.long q3), .second, .val (.double (FP.ddiv (FP.i2d ((p0 &&& (255 : Int32)) + (1 : Int32))) (4643211215818981376 : UInt64))), .second, .val (.int 0), .val (.double 9218868437227405312), .second, .val (.double 9218868437227405312), .second, .val (.ref b102), .unset] [(.int 0)] _
      refine XS.ifYes X104.here hx rfl (pc0 := 145) (pc' := 159) rfl (hb hby at_145) rfl ((if0 _ _).trans (teq (by decide : (0 : Int32) = (0 : Int32))).1) (by decide) (by decide) ?_
      show own_S p e below T104 m 159 #[.val (.int p0), .val (.int p1), .val (.int p2), .val (.long q3), .second, .val (.double (FP.ddiv (FP.i2d ((p0 &&& (255 : Int32)) + (1 : Int32))) (4643211215818981376 : UInt64))), .second, .val (.int 0), .val (.double 9218868437227405312), .second, .val (.double 9218868437227405312), .second, .val (.ref b102), .unset] [] _
      refine XS.iconst X104.here hx rfl (hb hby at_159) ?_
      show own_S p e below T104 m 160 #[.val (.int p0), .val (.int p1), .val (.int p2), .val (.long q3), .second, .val (.double (FP.ddiv (FP.i2d ((p0 &&& (255 : Int32)) + (1 : Int32))) (4643211215818981376 : UInt64))), .second, .val (.int 0), .val (.double 9218868437227405312), .second, .val (.double 9218868437227405312), .second, .val (.ref b102), .unset] [(.int 0)] _
      refine XS.istore X104.here hx rfl (hb hby at_160) rfl (l' := #[.val (.int p0), .val (.int p1), .val (.int p2), .val (.long q3), .second, .val (.double (FP.ddiv (FP.i2d ((p0 &&& (255 : Int32)) + (1 : Int32))) (4643211215818981376 : UInt64))), .second, .val (.int 0), .val (.double 9218868437227405312), .second, .val (.double 9218868437227405312), .second, .val (.ref b102), .val (.int 0)]) rfl ?_
      show own_S p e below T104 m 162 #[.val (.int p0), .val (.int p1), .val (.int p2), .val (.long q3), .second, .val (.double (FP.ddiv (FP.i2d ((p0 &&& (255 : Int32)) + (1 : Int32))) (4643211215818981376 : UInt64))), .second, .val (.int 0), .val (.double 9218868437227405312), .second, .val (.double 9218868437227405312), .second, .val (.ref b102), .val (.int 0)] [] _
      refine XS.aload X104.here hx rfl (hb hby at_162) rfl rfl ?_
      show own_S p e below T104 m 164 #[.val (.int p0), .val (.int p1), .val (.int p2), .val (.long q3), .second, .val (.double (FP.ddiv (FP.i2d ((p0 &&& (255 : Int32)) + (1 : Int32))) (4643211215818981376 : UInt64))), .second, .val (.int 0), .val (.double 9218868437227405312), .second, .val (.double 9218868437227405312), .second, .val (.ref b102), .val (.int 0)] [(.ref b102)] _
      refine st106.trans ?_
      show own_S p e below T106 m 167 #[.val (.int p0), .val (.int p1), .val (.int p2), .val (.long q3), .second, .val (.double (FP.ddiv (FP.i2d ((p0 &&& (255 : Int32)) + (1 : Int32))) (4643211215818981376 : UInt64))), .second, .val (.int 0), .val (.double 9218868437227405312), .second, .val (.double 9218868437227405312), .second, .val (.ref b102), .val (.int 0)] [(.int (own_rch (9218868437227405312 : UInt64)))] _
      refine reI (own_rinf : (own_rch (9218868437227405312 : UInt64)) = (0 : Int32)) ?_
      show own_S p e below T106 m 167 #[.val (.int p0), .val (.int p1), .val (.int p2), .val (.long q3), .second, .val (.double (FP.ddiv (FP.i2d ((p0 &&& (255 : Int32)) + (1 : Int32))) (4643211215818981376 : UInt64))), .second, .val (.int 0), .val (.double 9218868437227405312), .second, .val (.double 9218868437227405312), .second, .val (.ref b102), .val (.int 0)] [(.int 0)] _
      refine XS.iload X106.here hx rfl (hb hby at_167) rfl ?_
      show own_S p e below T106 m 169 #[.val (.int p0), .val (.int p1), .val (.int p2), .val (.long q3), .second, .val (.double (FP.ddiv (FP.i2d ((p0 &&& (255 : Int32)) + (1 : Int32))) (4643211215818981376 : UInt64))), .second, .val (.int 0), .val (.double 9218868437227405312), .second, .val (.double 9218868437227405312), .second, .val (.ref b102), .val (.int 0)] [(.int 0), (.int 0)] _
      refine XS.icmpNo X106.here hx rfl (hb hby at_169) rfl (teq (by decide : (0 : Int32) = (0 : Int32))).2 ?_
      show own_S p e below T106 m 172 #[.val (.int p0), .val (.int p1), .val (.int p2), .val (.long q3), .second, .val (.double (FP.ddiv (FP.i2d ((p0 &&& (255 : Int32)) + (1 : Int32))) (4643211215818981376 : UInt64))), .second, .val (.int 0), .val (.double 9218868437227405312), .second, .val (.double 9218868437227405312), .second, .val (.ref b102), .val (.int 0)] [] _
      refine XS.iconst X106.here hx rfl (hb hby at_172) ?_
      show own_S p e below T106 m 173 #[.val (.int p0), .val (.int p1), .val (.int p2), .val (.long q3), .second, .val (.double (FP.ddiv (FP.i2d ((p0 &&& (255 : Int32)) + (1 : Int32))) (4643211215818981376 : UInt64))), .second, .val (.int 0), .val (.double 9218868437227405312), .second, .val (.double 9218868437227405312), .second, .val (.ref b102), .val (.int 0)] [(.int 1)] _
      refine XS.goto X106.here hx rfl (pc0 := 173) (pc' := 177) rfl (hb hby at_173) (by decide) (by decide) ?_
      show own_S p e below T106 m 177 #[.val (.int p0), .val (.int p1), .val (.int p2), .val (.long q3), .second, .val (.double (FP.ddiv (FP.i2d ((p0 &&& (255 : Int32)) + (1 : Int32))) (4643211215818981376 : UInt64))), .second, .val (.int 0), .val (.double 9218868437227405312), .second, .val (.double 9218868437227405312), .second, .val (.ref b102), .val (.int 0)] [(.int 1)] _
      exact retN X106 hx (t := .boolean) Bd.returns (by simp) (hb hby at_177) hr
    · show Qm0 Z p0 p1 p2 q3 h0 n0 _ T106.heap _
      rw [P106_0]
      exact ⟨rfl, N106⟩
  · skip
    have hge : 0 ≤ (p2 &&& (65535 : Int32)).toInt * (FP.Core.one64 : Int) := by
      have b := own_maskI (x := p2) (m := 65535) (k := 16) (by decide) (by decide)
      have := FP.Core.one64_pos
      exact Int.mul_nonneg b.1 (by omega)
    obtain ⟨T107, h107, X107, e107, E107, A107, D107, -, st107⟩ := newO X0 hx hZ hown (own_w hw 3 rfl) (own_w hw 4 rfl) (own_w hw 5 rfl) e0 (g := (mkF m 130 #[.val (.int p0), .val (.int p1), .val (.int p2), .val (.long q3), .second, .val (.double (FP.ddiv (FP.i2d ((p0 &&& (255 : Int32)) + (1 : Int32))) (4643211215818981376 : UInt64))), .second, .val (.int 1), .val (.double 9218868437227405312), .second, .val (.double (FP.i2d (p2 &&& (65535 : Int32)))), .second, .unset, .unset] [])) rfl (hb hby at_130) (by decide) (by decide)
    obtain ⟨b107, g107⟩ : ∃ z, z = h0.size := ⟨_, rfl⟩
    rw [← g107] at A107 D107 st107
    have g_b107 : n0 ≤ b107 := Nat.le_trans Z0 (Nat.le_of_eq g107.symm)
    have ZZ108 : n0 ≤ h107.size := Nat.le_trans Z0 E107.1
    have F_servedShare_b107 : Fld Z h107 b107 "com/example/fireweed/fireweed/model/ServiceTarget" "servedShare" "D" (.double 0) := D107 (Or.inr (own_w hw 18 rfl)) (ty := .double) (by decide)
    have F_maxMeanWaitS_b107 : Fld Z h107 b107 "com/example/fireweed/fireweed/model/ServiceTarget" "maxMeanWaitS" "D" (.double 0) := D107 (Or.inr (own_w hw 20 rfl)) (ty := .double) (by decide)
    obtain ⟨_, _, ⟨T109, L109, k109, n109⟩, -, X109, ⟨Lc109, hQ109, l109, y109, z109⟩, st109⟩ := X107.specialBack hx (y := (⟨"com/example/fireweed/fireweed/model/ServiceTarget", "<init>", "(DD)V"⟩ : MethodName)) rfl hown (mvT hZ (own_w hw 6 rfl)) (mvT hZ (own_w hw 7 rfl)) (mvT hZ (own_w hw 8 rfl)) (by decide) (backOf (W := 1) (rmm1 l Z a0 hw [] b107 (FP.ddiv (FP.i2d ((p0 &&& (255 : Int32)) + (1 : Int32))) (4643211215818981376 : UInt64)) (FP.i2d (p2 &&& (65535 : Int32))) (.double 0) (.double 0) h107 n0 ZZ108 F_servedShare_b107 F_maxMeanWaitS_b107 A107 g_b107 hs6 hs12 (own_nlt (own_int (FP.Core.i2d_int _)) hge)) hZ (own_w hw 8 rfl) (own_w hw 5 rfl) (by decide) (by decide)) (g := (mkF m 138 #[.val (.int p0), .val (.int p1), .val (.int p2), .val (.long q3), .second, .val (.double (FP.ddiv (FP.i2d ((p0 &&& (255 : Int32)) + (1 : Int32))) (4643211215818981376 : UInt64))), .second, .val (.int 1), .val (.double 9218868437227405312), .second, .val (.double (FP.i2d (p2 &&& (65535 : Int32)))), .second, .unset, .unset] [(.double (FP.i2d (p2 &&& (65535 : Int32)))), (.double (FP.ddiv (FP.i2d ((p0 &&& (255 : Int32)) + (1 : Int32))) (4643211215818981376 : UInt64))), (.ref b107), (.ref b107)])) rfl (by rw [hml]; rfl) (Steps.refl _) (a := b107) (argsL := [(.double (FP.ddiv (FP.i2d ((p0 &&& (255 : Int32)) + (1 : Int32))) (4643211215818981376 : UInt64))), (.double (FP.i2d (p2 &&& (65535 : Int32))))]) (rest := [(.ref b107)]) (lenOf pd1 rfl) rfl (by show 2 * 0 + _ ≤ _; exact Nat.le_of_eq rfl) (hb hby at_138) (fun _ _ => ⟨rfl, e107, (by decide : 1 + 0 ≤ _), (by decide : 2 + 0 ≤ _)⟩)
    dsimp only [Pt.U, Pt.locs, Pt.cells, Pt.slots] at X109 l109 y109 z109 st109 hQ109
    subst l109 y109 z109
    obtain ⟨rfl, Nq109, P109_0, P109_1, P109_2, P109_3⟩ := hQ109
    have N109 := Fr.app N0 Nq109
    have ZZ110 : n0 ≤ T109.heap.size := Nat.le_trans ZZ108 P109_0.1
    obtain ⟨cq111, kq111, q111a, q111b, q111c⟩ := isOf hZ rfl P109_1
    obtain ⟨_, _, ⟨T111, L111, k111, n111⟩, -, X111, ⟨Lc111, hQ111, l111, y111, z111⟩, st111⟩ := X109.virtualBack hx (y := (⟨"com/example/fireweed/fireweed/model/ServiceTarget", "capsWait", "()Z"⟩ : MethodName)) (z := (⟨"com/example/fireweed/fireweed/model/ServiceTarget", "capsWait", "()Z"⟩ : MethodName)) hown (mvT hZ (own_w hw 21 rfl)) (mvT hZ (own_w hw 22 rfl)) (notFace_of_selects (args := #[]) (mvT hZ (own_w hw 24 rfl))) (mvT hZ (own_w hw 24 rfl)) (mvT hZ (own_w hw 23 rfl)) (by decide) (backOf (W := 0) (rmm4 l Z a0 hw [] b107 (FP.i2d (p2 &&& (65535 : Int32))) T109.heap n0 ZZ110 P109_3) hZ (own_w hw 25 rfl) (own_w hw 5 rfl) (by decide) (by decide)) q111a q111c (g := (mkF m 164 #[.val (.int p0), .val (.int p1), .val (.int p2), .val (.long q3), .second, .val (.double (FP.ddiv (FP.i2d ((p0 &&& (255 : Int32)) + (1 : Int32))) (4643211215818981376 : UInt64))), .second, .val (.int 1), .val (.double 9218868437227405312), .second, .val (.double (FP.i2d (p2 &&& (65535 : Int32)))), .second, .val (.ref b107), .val (.int 1)] [(.ref b107)])) rfl (by rw [hml]; rfl) (Steps.refl _) (argsL := []) (rest := []) (lenOf pd2 rfl) rfl (by show 2 * 0 + _ ≤ _; exact Nat.le_of_eq rfl) (hb hby at_164) (fun _ _ => ⟨rfl, rfl, (by decide : 1 + 0 ≤ _), (by decide : 2 + 0 ≤ _)⟩)
    dsimp only [Pt.U, Pt.locs, Pt.cells, Pt.slots] at X111 l111 y111 z111 st111 hQ111
    subst l111 y111 z111
    obtain ⟨rfl, Nq111, P111_0⟩ := hQ111
    have N111 := Fr.app N109 Nq111
    obtain ⟨fs, hr, hrun, hended, hW, hsame⟩ := X111.leave (v := some (.int 1)) (fun h => by rw [Bd.returns] at h; cases h)
    refine ⟨_, _, pre0 _ (pre101 _ ?_), hrun, hended, _, _, rfl, ?_, ⟨_, rfl⟩, hW, hsame.mono (by decide) (by decide)⟩
    · show own_S p e below s₁ m 18 #[.val (.int p0), .val (.int p1), .val (.int p2), .val (.long q3), .second, .val (.double (FP.ddiv (FP.i2d ((p0 &&& (255 : Int32)) + (1 : Int32))) (4643211215818981376 : UInt64))), .second, .unset, .unset, .unset, .unset, .unset, .unset, .unset] [(.int (p1 &&& (7 : Int32)))] _
      refine reI (hk : (p1 &&& (7 : Int32)) = (1 : Int32)) ?_
      show own_S p e below s₁ m 18 #[.val (.int p0), .val (.int p1), .val (.int p2), .val (.long q3), .second, .val (.double (FP.ddiv (FP.i2d ((p0 &&& (255 : Int32)) + (1 : Int32))) (4643211215818981376 : UInt64))), .second, .unset, .unset, .unset, .unset, .unset, .unset, .unset] [(.int 1)] _
      refine XS.istore X0.here hx rfl (hb hby at_18) rfl (l' := #[.val (.int p0), .val (.int p1), .val (.int p2), .val (.long q3), .second, .val (.double (FP.ddiv (FP.i2d ((p0 &&& (255 : Int32)) + (1 : Int32))) (4643211215818981376 : UInt64))), .second, .val (.int 1), .unset, .unset, .unset, .unset, .unset, .unset]) rfl ?_
      show own_S p e below s₁ m 20 #[.val (.int p0), .val (.int p1), .val (.int p2), .val (.long q3), .second, .val (.double (FP.ddiv (FP.i2d ((p0 &&& (255 : Int32)) + (1 : Int32))) (4643211215818981376 : UInt64))), .second, .val (.int 1), .unset, .unset, .unset, .unset, .unset, .unset] [] _
      refine X0.ldc2DoubleC hx hown (mvT hZ (own_w hw 1 rfl)) (g := (mkF m 20 #[.val (.int p0), .val (.int p1), .val (.int p2), .val (.long q3), .second, .val (.double (FP.ddiv (FP.i2d ((p0 &&& (255 : Int32)) + (1 : Int32))) (4643211215818981376 : UInt64))), .second, .val (.int 1), .unset, .unset, .unset, .unset, .unset, .unset] [])) rfl (hb hby at_20) _ ?_
      show own_S p e below s₁ m 23 #[.val (.int p0), .val (.int p1), .val (.int p2), .val (.long q3), .second, .val (.double (FP.ddiv (FP.i2d ((p0 &&& (255 : Int32)) + (1 : Int32))) (4643211215818981376 : UInt64))), .second, .val (.int 1), .unset, .unset, .unset, .unset, .unset, .unset] [(.double 9218868437227405312)] _
      refine XS.dstore X0.here hx rfl (hb hby at_23) rfl (l' := #[.val (.int p0), .val (.int p1), .val (.int p2), .val (.long q3), .second, .val (.double (FP.ddiv (FP.i2d ((p0 &&& (255 : Int32)) + (1 : Int32))) (4643211215818981376 : UInt64))), .second, .val (.int 1), .val (.double 9218868437227405312), .second, .unset, .unset, .unset, .unset]) rfl ?_
      show own_S p e below s₁ m 25 #[.val (.int p0), .val (.int p1), .val (.int p2), .val (.long q3), .second, .val (.double (FP.ddiv (FP.i2d ((p0 &&& (255 : Int32)) + (1 : Int32))) (4643211215818981376 : UInt64))), .second, .val (.int 1), .val (.double 9218868437227405312), .second, .unset, .unset, .unset, .unset] [] _
      refine XS.iload X0.here hx rfl (hb hby at_25) rfl ?_
      show own_S p e below s₁ m 27 #[.val (.int p0), .val (.int p1), .val (.int p2), .val (.long q3), .second, .val (.double (FP.ddiv (FP.i2d ((p0 &&& (255 : Int32)) + (1 : Int32))) (4643211215818981376 : UInt64))), .second, .val (.int 1), .val (.double 9218868437227405312), .second, .unset, .unset, .unset, .unset] [(.int 1)] _
      refine XS.ifNo X0.here hx rfl (hb hby at_27) rfl ((if0 _ _).trans (feq (by decide : ¬ ((1 : Int32) = (0 : Int32)))).1) ?_
      show own_S p e below s₁ m 30 #[.val (.int p0), .val (.int p1), .val (.int p2), .val (.long q3), .second, .val (.double (FP.ddiv (FP.i2d ((p0 &&& (255 : Int32)) + (1 : Int32))) (4643211215818981376 : UInt64))), .second, .val (.int 1), .val (.double 9218868437227405312), .second, .unset, .unset, .unset, .unset] [] _
      refine XS.iload X0.here hx rfl (hb hby at_30) rfl ?_
      show own_S p e below s₁ m 32 #[.val (.int p0), .val (.int p1), .val (.int p2), .val (.long q3), .second, .val (.double (FP.ddiv (FP.i2d ((p0 &&& (255 : Int32)) + (1 : Int32))) (4643211215818981376 : UInt64))), .second, .val (.int 1), .val (.double 9218868437227405312), .second, .unset, .unset, .unset, .unset] [(.int 1)] _
      refine XS.bipush X0.here hx rfl (hb hby at_32) ?_
      show own_S p e below s₁ m 34 #[.val (.int p0), .val (.int p1), .val (.int p2), .val (.long q3), .second, .val (.double (FP.ddiv (FP.i2d ((p0 &&& (255 : Int32)) + (1 : Int32))) (4643211215818981376 : UInt64))), .second, .val (.int 1), .val (.double 9218868437227405312), .second, .unset, .unset, .unset, .unset] [(.int 7), (.int 1)] _
      refine XS.icmpYes X0.here hx rfl (pc0 := 34) (pc' := 44) rfl (hb hby at_34) rfl (feq (by decide : ¬ ((1 : Int32) = (7 : Int32)))).2 (by decide) (by decide) ?_
      show own_S p e below s₁ m 44 #[.val (.int p0), .val (.int p1), .val (.int p2), .val (.long q3), .second, .val (.double (FP.ddiv (FP.i2d ((p0 &&& (255 : Int32)) + (1 : Int32))) (4643211215818981376 : UInt64))), .second, .val (.int 1), .val (.double 9218868437227405312), .second, .unset, .unset, .unset, .unset] [] _
      refine XS.iload X0.here hx rfl (hb hby at_44) rfl ?_
      show own_S p e below s₁ m 46 #[.val (.int p0), .val (.int p1), .val (.int p2), .val (.long q3), .second, .val (.double (FP.ddiv (FP.i2d ((p0 &&& (255 : Int32)) + (1 : Int32))) (4643211215818981376 : UInt64))), .second, .val (.int 1), .val (.double 9218868437227405312), .second, .unset, .unset, .unset, .unset] [(.int 1)] _
      refine XS.iconst X0.here hx rfl (hb hby at_46) ?_
      show own_S p e below s₁ m 47 #[.val (.int p0), .val (.int p1), .val (.int p2), .val (.long q3), .second, .val (.double (FP.ddiv (FP.i2d ((p0 &&& (255 : Int32)) + (1 : Int32))) (4643211215818981376 : UInt64))), .second, .val (.int 1), .val (.double 9218868437227405312), .second, .unset, .unset, .unset, .unset] [(.int 1), (.int 1)] _
      refine XS.icmpNo X0.here hx rfl (hb hby at_47) rfl (teq (by decide : (1 : Int32) = (1 : Int32))).2 ?_
      show own_S p e below s₁ m 50 #[.val (.int p0), .val (.int p1), .val (.int p2), .val (.long q3), .second, .val (.double (FP.ddiv (FP.i2d ((p0 &&& (255 : Int32)) + (1 : Int32))) (4643211215818981376 : UInt64))), .second, .val (.int 1), .val (.double 9218868437227405312), .second, .unset, .unset, .unset, .unset] [] _
      refine XS.iloadN X0.here hx rfl (hb hby at_50) rfl ?_
      show own_S p e below s₁ m 51 #[.val (.int p0), .val (.int p1), .val (.int p2), .val (.long q3), .second, .val (.double (FP.ddiv (FP.i2d ((p0 &&& (255 : Int32)) + (1 : Int32))) (4643211215818981376 : UInt64))), .second, .val (.int 1), .val (.double 9218868437227405312), .second, .unset, .unset, .unset, .unset] [(.int p2)] _
      refine X0.ldcInt hx hown (mvT hZ (own_w hw 30 rfl)) (g := (mkF m 51 #[.val (.int p0), .val (.int p1), .val (.int p2), .val (.long q3), .second, .val (.double (FP.ddiv (FP.i2d ((p0 &&& (255 : Int32)) + (1 : Int32))) (4643211215818981376 : UInt64))), .second, .val (.int 1), .val (.double 9218868437227405312), .second, .unset, .unset, .unset, .unset] [(.int p2)])) rfl (hb hby at_51) _ ?_
      show own_S p e below s₁ m 53 #[.val (.int p0), .val (.int p1), .val (.int p2), .val (.long q3), .second, .val (.double (FP.ddiv (FP.i2d ((p0 &&& (255 : Int32)) + (1 : Int32))) (4643211215818981376 : UInt64))), .second, .val (.int 1), .val (.double 9218868437227405312), .second, .unset, .unset, .unset, .unset] [(.int 65535), (.int p2)] _
      refine XS.iand X0.here hx rfl (hb hby at_53) rfl ?_
      show own_S p e below s₁ m 54 #[.val (.int p0), .val (.int p1), .val (.int p2), .val (.long q3), .second, .val (.double (FP.ddiv (FP.i2d ((p0 &&& (255 : Int32)) + (1 : Int32))) (4643211215818981376 : UInt64))), .second, .val (.int 1), .val (.double 9218868437227405312), .second, .unset, .unset, .unset, .unset] [(.int (p2 &&& (65535 : Int32)))] _
      refine XS.i2dS X0.here hx rfl (v := (FP.i2d (p2 &&& (65535 : Int32)))) (hb hby at_54) rfl rfl ?_
      show own_S p e below s₁ m 55 #[.val (.int p0), .val (.int p1), .val (.int p2), .val (.long q3), .second, .val (.double (FP.ddiv (FP.i2d ((p0 &&& (255 : Int32)) + (1 : Int32))) (4643211215818981376 : UInt64))), .second, .val (.int 1), .val (.double 9218868437227405312), .second, .unset, .unset, .unset, .unset] [(.double (FP.i2d (p2 &&& (65535 : Int32))))] _
      refine XS.dstore X0.here hx rfl (hb hby at_55) rfl (l' := #[.val (.int p0), .val (.int p1), .val (.int p2), .val (.long q3), .second, .val (.double (FP.ddiv (FP.i2d ((p0 &&& (255 : Int32)) + (1 : Int32))) (4643211215818981376 : UInt64))), .second, .val (.int 1), .val (.double 9218868437227405312), .second, .val (.double (FP.i2d (p2 &&& (65535 : Int32)))), .second, .unset, .unset]) rfl ?_
      show own_S p e below s₁ m 57 #[.val (.int p0), .val (.int p1), .val (.int p2), .val (.long q3), .second, .val (.double (FP.ddiv (FP.i2d ((p0 &&& (255 : Int32)) + (1 : Int32))) (4643211215818981376 : UInt64))), .second, .val (.int 1), .val (.double 9218868437227405312), .second, .val (.double (FP.i2d (p2 &&& (65535 : Int32)))), .second, .unset, .unset] [] _
      refine XS.goto X0.here hx rfl (pc0 := 57) (pc' := 130) rfl (hb hby at_57) (by decide) (by decide) ?_
      show own_S p e below s₁ m 130 #[.val (.int p0), .val (.int p1), .val (.int p2), .val (.long q3), .second, .val (.double (FP.ddiv (FP.i2d ((p0 &&& (255 : Int32)) + (1 : Int32))) (4643211215818981376 : UInt64))), .second, .val (.int 1), .val (.double 9218868437227405312), .second, .val (.double (FP.i2d (p2 &&& (65535 : Int32)))), .second, .unset, .unset] [] _
      refine st107 _ ?_
      show own_S p e below T107 m 133 #[.val (.int p0), .val (.int p1), .val (.int p2), .val (.long q3), .second, .val (.double (FP.ddiv (FP.i2d ((p0 &&& (255 : Int32)) + (1 : Int32))) (4643211215818981376 : UInt64))), .second, .val (.int 1), .val (.double 9218868437227405312), .second, .val (.double (FP.i2d (p2 &&& (65535 : Int32)))), .second, .unset, .unset] [(.ref b107)] _
      refine XS.dup X107.here hx rfl (hb hby at_133) rfl rfl ?_
      show own_S p e below T107 m 134 #[.val (.int p0), .val (.int p1), .val (.int p2), .val (.long q3), .second, .val (.double (FP.ddiv (FP.i2d ((p0 &&& (255 : Int32)) + (1 : Int32))) (4643211215818981376 : UInt64))), .second, .val (.int 1), .val (.double 9218868437227405312), .second, .val (.double (FP.i2d (p2 &&& (65535 : Int32)))), .second, .unset, .unset] [(.ref b107), (.ref b107)] _
      refine XS.dload X107.here hx rfl (hb hby at_134) rfl ?_
      show own_S p e below T107 m 136 #[.val (.int p0), .val (.int p1), .val (.int p2), .val (.long q3), .second, .val (.double (FP.ddiv (FP.i2d ((p0 &&& (255 : Int32)) + (1 : Int32))) (4643211215818981376 : UInt64))), .second, .val (.int 1), .val (.double 9218868437227405312), .second, .val (.double (FP.i2d (p2 &&& (65535 : Int32)))), .second, .unset, .unset] [(.double (FP.ddiv (FP.i2d ((p0 &&& (255 : Int32)) + (1 : Int32))) (4643211215818981376 : UInt64))), (.ref b107), (.ref b107)] _
      refine XS.dload X107.here hx rfl (hb hby at_136) rfl ?_
      show own_S p e below T107 m 138 #[.val (.int p0), .val (.int p1), .val (.int p2), .val (.long q3), .second, .val (.double (FP.ddiv (FP.i2d ((p0 &&& (255 : Int32)) + (1 : Int32))) (4643211215818981376 : UInt64))), .second, .val (.int 1), .val (.double 9218868437227405312), .second, .val (.double (FP.i2d (p2 &&& (65535 : Int32)))), .second, .unset, .unset] [(.double (FP.i2d (p2 &&& (65535 : Int32)))), (.double (FP.ddiv (FP.i2d ((p0 &&& (255 : Int32)) + (1 : Int32))) (4643211215818981376 : UInt64))), (.ref b107), (.ref b107)] _
      refine st109.trans ?_
      show own_S p e below T109 m 141 #[.val (.int p0), .val (.int p1), .val (.int p2), .val (.long q3), .second, .val (.double (FP.ddiv (FP.i2d ((p0 &&& (255 : Int32)) + (1 : Int32))) (4643211215818981376 : UInt64))), .second, .val (.int 1), .val (.double 9218868437227405312), .second, .val (.double (FP.i2d (p2 &&& (65535 : Int32)))), .second, .unset, .unset] [(.ref b107)] _
      refine XS.astore X109.here hx rfl (hb hby at_141) rfl rfl (l' := #[.val (.int p0), .val (.int p1), .val (.int p2), .val (.long q3), .second, .val (.double (FP.ddiv (FP.i2d ((p0 &&& (255 : Int32)) + (1 : Int32))) (4643211215818981376 : UInt64))), .second, .val (.int 1), .val (.double 9218868437227405312), .second, .val (.double (FP.i2d (p2 &&& (65535 : Int32)))), .second, .val (.ref b107), .unset]) rfl ?_
      show own_S p e below T109 m 143 #[.val (.int p0), .val (.int p1), .val (.int p2), .val (.long q3), .second, .val (.double (FP.ddiv (FP.i2d ((p0 &&& (255 : Int32)) + (1 : Int32))) (4643211215818981376 : UInt64))), .second, .val (.int 1), .val (.double 9218868437227405312), .second, .val (.double (FP.i2d (p2 &&& (65535 : Int32)))), .second, .val (.ref b107), .unset] [] _
      refine XS.iload X109.here hx rfl (hb hby at_143) rfl ?_
      show own_S p e below T109 m 145 #[.val (.int p0), .val (.int p1), .val (.int p2), .val (.long q3), .second, .val (.double (FP.ddiv (FP.i2d ((p0 &&& (255 : Int32)) + (1 : Int32))) (4643211215818981376 : UInt64))), .second, .val (.int 1), .val (.double 9218868437227405312), .second, .val (.double (FP.i2d (p2 &&& (65535 : Int32)))), .second, .val (.ref b107), .unset] [(.int 1)] _
      refine XS.ifNo X109.here hx rfl (hb hby at_145) rfl ((if0 _ _).trans (feq (by decide : ¬ ((1 : Int32) = (0 : Int32)))).1) ?_
      show own_S p e below T109 m 148 #[.val (.int p0), .val (.int p1), .val (.int p2), .val (.long q3), .second, .val (.double (FP.ddiv (FP.i2d ((p0 &&& (255 : Int32)) + (1 : Int32))) (4643211215818981376 : UInt64))), .second, .val (.int 1), .val (.double 9218868437227405312), .second, .val (.double (FP.i2d (p2 &&& (65535 : Int32)))), .second, .val (.ref b107), .unset] [] _
      refine XS.iload X109.here hx rfl (hb hby at_148) rfl ?_
      show own_S p e below T109 m 150 #[.val (.int p0), .val (.int p1), .val (.int p2), .val (.long q3), .second, .val (.double (FP.ddiv (FP.i2d ((p0 &&& (255 : Int32)) + (1 : Int32))) (4643211215818981376 : UInt64))), .second, .val (.int 1), .val (.double 9218868437227405312), .second, .val (.double (FP.i2d (p2 &&& (65535 : Int32)))), .second, .val (.ref b107), .unset] [(.int 1)] _
      refine XS.bipush X109.here hx rfl (hb hby at_150) ?_
      show own_S p e below T109 m 152 #[.val (.int p0), .val (.int p1), .val (.int p2), .val (.long q3), .second, .val (.double (FP.ddiv (FP.i2d ((p0 &&& (255 : Int32)) + (1 : Int32))) (4643211215818981376 : UInt64))), .second, .val (.int 1), .val (.double 9218868437227405312), .second, .val (.double (FP.i2d (p2 &&& (65535 : Int32)))), .second, .val (.ref b107), .unset] [(.int 7), (.int 1)] _
      refine XS.icmpNo X109.here hx rfl (hb hby at_152) rfl (feq (by decide : ¬ ((1 : Int32) = (7 : Int32)))).1 ?_
      show own_S p e below T109 m 155 #[.val (.int p0), .val (.int p1), .val (.int p2), .val (.long q3), .second, .val (.double (FP.ddiv (FP.i2d ((p0 &&& (255 : Int32)) + (1 : Int32))) (4643211215818981376 : UInt64))), .second, .val (.int 1), .val (.double 9218868437227405312), .second, .val (.double (FP.i2d (p2 &&& (65535 : Int32)))), .second, .val (.ref b107), .unset] [] _
      refine XS.iconst X109.here hx rfl (hb hby at_155) ?_
      show own_S p e below T109 m 156 #[.val (.int p0), .val (.int p1), .val (.int p2), .val (.long q3), .second, .val (.double (FP.ddiv (FP.i2d ((p0 &&& (255 : Int32)) + (1 : Int32))) (4643211215818981376 : UInt64))), .second, .val (.int 1), .val (.double 9218868437227405312), .second, .val (.double (FP.i2d (p2 &&& (65535 : Int32)))), .second, .val (.ref b107), .unset] [(.int 1)] _
      refine XS.goto X109.here hx rfl (pc0 := 156) (pc' := 160) rfl (hb hby at_156) (by decide) (by decide) ?_
      show own_S p e below T109 m 160 #[.val (.int p0), .val (.int p1), .val (.int p2), .val (.long q3), .second, .val (.double (FP.ddiv (FP.i2d ((p0 &&& (255 : Int32)) + (1 : Int32))) (4643211215818981376 : UInt64))), .second, .val (.int 1), .val (.double 9218868437227405312), .second, .val (.double (FP.i2d (p2 &&& (65535 : Int32)))), .second, .val (.ref b107), .unset] [(.int 1)] _
      refine XS.istore X109.here hx rfl (hb hby at_160) rfl (l' := #[.val (.int p0), .val (.int p1), .val (.int p2), .val (.long q3), .second, .val (.double (FP.ddiv (FP.i2d ((p0 &&& (255 : Int32)) + (1 : Int32))) (4643211215818981376 : UInt64))), .second, .val (.int 1), .val (.double 9218868437227405312), .second, .val (.double (FP.i2d (p2 &&& (65535 : Int32)))), .second, .val (.ref b107), .val (.int 1)]) rfl ?_
      show own_S p e below T109 m 162 #[.val (.int p0), .val (.int p1), .val (.int p2), .val (.long q3), .second, .val (.double (FP.ddiv (FP.i2d ((p0 &&& (255 : Int32)) + (1 : Int32))) (4643211215818981376 : UInt64))), .second, .val (.int 1), .val (.double 9218868437227405312), .second, .val (.double (FP.i2d (p2 &&& (65535 : Int32)))), .second, .val (.ref b107), .val (.int 1)] [] _
      refine XS.aload X109.here hx rfl (hb hby at_162) rfl rfl ?_
      show own_S p e below T109 m 164 #[.val (.int p0), .val (.int p1), .val (.int p2), .val (.long q3), .second, .val (.double (FP.ddiv (FP.i2d ((p0 &&& (255 : Int32)) + (1 : Int32))) (4643211215818981376 : UInt64))), .second, .val (.int 1), .val (.double 9218868437227405312), .second, .val (.double (FP.i2d (p2 &&& (65535 : Int32)))), .second, .val (.ref b107), .val (.int 1)] [(.ref b107)] _
      refine st111.trans ?_
      show own_S p e below T111 m 167 #[.val (.int p0), .val (.int p1), .val (.int p2), .val (.long q3), .second, .val (.double (FP.ddiv (FP.i2d ((p0 &&& (255 : Int32)) + (1 : Int32))) (4643211215818981376 : UInt64))), .second, .val (.int 1), .val (.double 9218868437227405312), .second, .val (.double (FP.i2d (p2 &&& (65535 : Int32)))), .second, .val (.ref b107), .val (.int 1)] [(.int (own_rch (FP.i2d (p2 &&& (65535 : Int32)))))] _
      refine reI (own_rfin (i2d_fin _) : (own_rch (FP.i2d (p2 &&& (65535 : Int32)))) = (1 : Int32)) ?_
      show own_S p e below T111 m 167 #[.val (.int p0), .val (.int p1), .val (.int p2), .val (.long q3), .second, .val (.double (FP.ddiv (FP.i2d ((p0 &&& (255 : Int32)) + (1 : Int32))) (4643211215818981376 : UInt64))), .second, .val (.int 1), .val (.double 9218868437227405312), .second, .val (.double (FP.i2d (p2 &&& (65535 : Int32)))), .second, .val (.ref b107), .val (.int 1)] [(.int 1)] _
      refine XS.iload X111.here hx rfl (hb hby at_167) rfl ?_
      show own_S p e below T111 m 169 #[.val (.int p0), .val (.int p1), .val (.int p2), .val (.long q3), .second, .val (.double (FP.ddiv (FP.i2d ((p0 &&& (255 : Int32)) + (1 : Int32))) (4643211215818981376 : UInt64))), .second, .val (.int 1), .val (.double 9218868437227405312), .second, .val (.double (FP.i2d (p2 &&& (65535 : Int32)))), .second, .val (.ref b107), .val (.int 1)] [(.int 1), (.int 1)] _
      refine XS.icmpNo X111.here hx rfl (hb hby at_169) rfl (teq (by decide : (1 : Int32) = (1 : Int32))).2 ?_
      show own_S p e below T111 m 172 #[.val (.int p0), .val (.int p1), .val (.int p2), .val (.long q3), .second, .val (.double (FP.ddiv (FP.i2d ((p0 &&& (255 : Int32)) + (1 : Int32))) (4643211215818981376 : UInt64))), .second, .val (.int 1), .val (.double 9218868437227405312), .second, .val (.double (FP.i2d (p2 &&& (65535 : Int32)))), .second, .val (.ref b107), .val (.int 1)] [] _
      refine XS.iconst X111.here hx rfl (hb hby at_172) ?_
      show own_S p e below T111 m 173 #[.val (.int p0), .val (.int p1), .val (.int p2), .val (.long q3), .second, .val (.double (FP.ddiv (FP.i2d ((p0 &&& (255 : Int32)) + (1 : Int32))) (4643211215818981376 : UInt64))), .second, .val (.int 1), .val (.double 9218868437227405312), .second, .val (.double (FP.i2d (p2 &&& (65535 : Int32)))), .second, .val (.ref b107), .val (.int 1)] [(.int 1)] _
      refine XS.goto X111.here hx rfl (pc0 := 173) (pc' := 177) rfl (hb hby at_173) (by decide) (by decide) ?_
      show own_S p e below T111 m 177 #[.val (.int p0), .val (.int p1), .val (.int p2), .val (.long q3), .second, .val (.double (FP.ddiv (FP.i2d ((p0 &&& (255 : Int32)) + (1 : Int32))) (4643211215818981376 : UInt64))), .second, .val (.int 1), .val (.double 9218868437227405312), .second, .val (.double (FP.i2d (p2 &&& (65535 : Int32)))), .second, .val (.ref b107), .val (.int 1)] [(.int 1)] _
      exact retN X111 hx (t := .boolean) Bd.returns (by simp) (hb hby at_177) hr
    · show Qm0 Z p0 p1 p2 q3 h0 n0 _ T111.heap _
      rw [P111_0]
      exact ⟨rfl, N111⟩
  · skip
    obtain ⟨T112, h112, X112, e112, E112, A112, D112, -, st112⟩ := newO X0 hx hZ hown (own_w hw 3 rfl) (own_w hw 4 rfl) (own_w hw 5 rfl) e0 (g := (mkF m 130 #[.val (.int p0), .val (.int p1), .val (.int p2), .val (.long q3), .second, .val (.double (FP.ddiv (FP.i2d ((p0 &&& (255 : Int32)) + (1 : Int32))) (4643211215818981376 : UInt64))), .second, .val (.int 2), .val (.double 9218868437227405312), .second, .val (.double 9218868437227405311), .second, .unset, .unset] [])) rfl (hb hby at_130) (by decide) (by decide)
    obtain ⟨b112, g112⟩ : ∃ z, z = h0.size := ⟨_, rfl⟩
    rw [← g112] at A112 D112 st112
    have g_b112 : n0 ≤ b112 := Nat.le_trans Z0 (Nat.le_of_eq g112.symm)
    have ZZ113 : n0 ≤ h112.size := Nat.le_trans Z0 E112.1
    have F_servedShare_b112 : Fld Z h112 b112 "com/example/fireweed/fireweed/model/ServiceTarget" "servedShare" "D" (.double 0) := D112 (Or.inr (own_w hw 18 rfl)) (ty := .double) (by decide)
    have F_maxMeanWaitS_b112 : Fld Z h112 b112 "com/example/fireweed/fireweed/model/ServiceTarget" "maxMeanWaitS" "D" (.double 0) := D112 (Or.inr (own_w hw 20 rfl)) (ty := .double) (by decide)
    obtain ⟨_, _, ⟨T114, L114, k114, n114⟩, -, X114, ⟨Lc114, hQ114, l114, y114, z114⟩, st114⟩ := X112.specialBack hx (y := (⟨"com/example/fireweed/fireweed/model/ServiceTarget", "<init>", "(DD)V"⟩ : MethodName)) rfl hown (mvT hZ (own_w hw 6 rfl)) (mvT hZ (own_w hw 7 rfl)) (mvT hZ (own_w hw 8 rfl)) (by decide) (backOf (W := 1) (rmm1 l Z a0 hw [] b112 (FP.ddiv (FP.i2d ((p0 &&& (255 : Int32)) + (1 : Int32))) (4643211215818981376 : UInt64)) (9218868437227405311 : UInt64) (.double 0) (.double 0) h112 n0 ZZ113 F_servedShare_b112 F_maxMeanWaitS_b112 A112 g_b112 hs6 hs12 (by decide +kernel)) hZ (own_w hw 8 rfl) (own_w hw 5 rfl) (by decide) (by decide)) (g := (mkF m 138 #[.val (.int p0), .val (.int p1), .val (.int p2), .val (.long q3), .second, .val (.double (FP.ddiv (FP.i2d ((p0 &&& (255 : Int32)) + (1 : Int32))) (4643211215818981376 : UInt64))), .second, .val (.int 2), .val (.double 9218868437227405312), .second, .val (.double 9218868437227405311), .second, .unset, .unset] [(.double 9218868437227405311), (.double (FP.ddiv (FP.i2d ((p0 &&& (255 : Int32)) + (1 : Int32))) (4643211215818981376 : UInt64))), (.ref b112), (.ref b112)])) rfl (by rw [hml]; rfl) (Steps.refl _) (a := b112) (argsL := [(.double (FP.ddiv (FP.i2d ((p0 &&& (255 : Int32)) + (1 : Int32))) (4643211215818981376 : UInt64))), (.double 9218868437227405311)]) (rest := [(.ref b112)]) (lenOf pd1 rfl) rfl (by show 2 * 0 + _ ≤ _; exact Nat.le_of_eq rfl) (hb hby at_138) (fun _ _ => ⟨rfl, e112, (by decide : 1 + 0 ≤ _), (by decide : 2 + 0 ≤ _)⟩)
    dsimp only [Pt.U, Pt.locs, Pt.cells, Pt.slots] at X114 l114 y114 z114 st114 hQ114
    subst l114 y114 z114
    obtain ⟨rfl, Nq114, P114_0, P114_1, P114_2, P114_3⟩ := hQ114
    have N114 := Fr.app N0 Nq114
    have ZZ115 : n0 ≤ T114.heap.size := Nat.le_trans ZZ113 P114_0.1
    obtain ⟨cq116, kq116, q116a, q116b, q116c⟩ := isOf hZ rfl P114_1
    obtain ⟨_, _, ⟨T116, L116, k116, n116⟩, -, X116, ⟨Lc116, hQ116, l116, y116, z116⟩, st116⟩ := X114.virtualBack hx (y := (⟨"com/example/fireweed/fireweed/model/ServiceTarget", "capsWait", "()Z"⟩ : MethodName)) (z := (⟨"com/example/fireweed/fireweed/model/ServiceTarget", "capsWait", "()Z"⟩ : MethodName)) hown (mvT hZ (own_w hw 21 rfl)) (mvT hZ (own_w hw 22 rfl)) (notFace_of_selects (args := #[]) (mvT hZ (own_w hw 24 rfl))) (mvT hZ (own_w hw 24 rfl)) (mvT hZ (own_w hw 23 rfl)) (by decide) (backOf (W := 0) (rmm4 l Z a0 hw [] b112 (9218868437227405311 : UInt64) T114.heap n0 ZZ115 P114_3) hZ (own_w hw 25 rfl) (own_w hw 5 rfl) (by decide) (by decide)) q116a q116c (g := (mkF m 164 #[.val (.int p0), .val (.int p1), .val (.int p2), .val (.long q3), .second, .val (.double (FP.ddiv (FP.i2d ((p0 &&& (255 : Int32)) + (1 : Int32))) (4643211215818981376 : UInt64))), .second, .val (.int 2), .val (.double 9218868437227405312), .second, .val (.double 9218868437227405311), .second, .val (.ref b112), .val (.int 1)] [(.ref b112)])) rfl (by rw [hml]; rfl) (Steps.refl _) (argsL := []) (rest := []) (lenOf pd2 rfl) rfl (by show 2 * 0 + _ ≤ _; exact Nat.le_of_eq rfl) (hb hby at_164) (fun _ _ => ⟨rfl, rfl, (by decide : 1 + 0 ≤ _), (by decide : 2 + 0 ≤ _)⟩)
    dsimp only [Pt.U, Pt.locs, Pt.cells, Pt.slots] at X116 l116 y116 z116 st116 hQ116
    subst l116 y116 z116
    obtain ⟨rfl, Nq116, P116_0⟩ := hQ116
    have N116 := Fr.app N114 Nq116
    obtain ⟨fs, hr, hrun, hended, hW, hsame⟩ := X116.leave (v := some (.int 1)) (fun h => by rw [Bd.returns] at h; cases h)
    refine ⟨_, _, pre0 _ (pre101 _ ?_), hrun, hended, _, _, rfl, ?_, ⟨_, rfl⟩, hW, hsame.mono (by decide) (by decide)⟩
    · show own_S p e below s₁ m 18 #[.val (.int p0), .val (.int p1), .val (.int p2), .val (.long q3), .second, .val (.double (FP.ddiv (FP.i2d ((p0 &&& (255 : Int32)) + (1 : Int32))) (4643211215818981376 : UInt64))), .second, .unset, .unset, .unset, .unset, .unset, .unset, .unset] [(.int (p1 &&& (7 : Int32)))] _
      refine reI (hk : (p1 &&& (7 : Int32)) = (2 : Int32)) ?_
      show own_S p e below s₁ m 18 #[.val (.int p0), .val (.int p1), .val (.int p2), .val (.long q3), .second, .val (.double (FP.ddiv (FP.i2d ((p0 &&& (255 : Int32)) + (1 : Int32))) (4643211215818981376 : UInt64))), .second, .unset, .unset, .unset, .unset, .unset, .unset, .unset] [(.int 2)] _
      refine XS.istore X0.here hx rfl (hb hby at_18) rfl (l' := #[.val (.int p0), .val (.int p1), .val (.int p2), .val (.long q3), .second, .val (.double (FP.ddiv (FP.i2d ((p0 &&& (255 : Int32)) + (1 : Int32))) (4643211215818981376 : UInt64))), .second, .val (.int 2), .unset, .unset, .unset, .unset, .unset, .unset]) rfl ?_
      show own_S p e below s₁ m 20 #[.val (.int p0), .val (.int p1), .val (.int p2), .val (.long q3), .second, .val (.double (FP.ddiv (FP.i2d ((p0 &&& (255 : Int32)) + (1 : Int32))) (4643211215818981376 : UInt64))), .second, .val (.int 2), .unset, .unset, .unset, .unset, .unset, .unset] [] _
      refine X0.ldc2DoubleC hx hown (mvT hZ (own_w hw 1 rfl)) (g := (mkF m 20 #[.val (.int p0), .val (.int p1), .val (.int p2), .val (.long q3), .second, .val (.double (FP.ddiv (FP.i2d ((p0 &&& (255 : Int32)) + (1 : Int32))) (4643211215818981376 : UInt64))), .second, .val (.int 2), .unset, .unset, .unset, .unset, .unset, .unset] [])) rfl (hb hby at_20) _ ?_
      show own_S p e below s₁ m 23 #[.val (.int p0), .val (.int p1), .val (.int p2), .val (.long q3), .second, .val (.double (FP.ddiv (FP.i2d ((p0 &&& (255 : Int32)) + (1 : Int32))) (4643211215818981376 : UInt64))), .second, .val (.int 2), .unset, .unset, .unset, .unset, .unset, .unset] [(.double 9218868437227405312)] _
      refine XS.dstore X0.here hx rfl (hb hby at_23) rfl (l' := #[.val (.int p0), .val (.int p1), .val (.int p2), .val (.long q3), .second, .val (.double (FP.ddiv (FP.i2d ((p0 &&& (255 : Int32)) + (1 : Int32))) (4643211215818981376 : UInt64))), .second, .val (.int 2), .val (.double 9218868437227405312), .second, .unset, .unset, .unset, .unset]) rfl ?_
      show own_S p e below s₁ m 25 #[.val (.int p0), .val (.int p1), .val (.int p2), .val (.long q3), .second, .val (.double (FP.ddiv (FP.i2d ((p0 &&& (255 : Int32)) + (1 : Int32))) (4643211215818981376 : UInt64))), .second, .val (.int 2), .val (.double 9218868437227405312), .second, .unset, .unset, .unset, .unset] [] _
      refine XS.iload X0.here hx rfl (hb hby at_25) rfl ?_
      show own_S p e below s₁ m 27 #[.val (.int p0), .val (.int p1), .val (.int p2), .val (.long q3), .second, .val (.double (FP.ddiv (FP.i2d ((p0 &&& (255 : Int32)) + (1 : Int32))) (4643211215818981376 : UInt64))), .second, .val (.int 2), .val (.double 9218868437227405312), .second, .unset, .unset, .unset, .unset] [(.int 2)] _
      refine XS.ifNo X0.here hx rfl (hb hby at_27) rfl ((if0 _ _).trans (feq (by decide : ¬ ((2 : Int32) = (0 : Int32)))).1) ?_
      show own_S p e below s₁ m 30 #[.val (.int p0), .val (.int p1), .val (.int p2), .val (.long q3), .second, .val (.double (FP.ddiv (FP.i2d ((p0 &&& (255 : Int32)) + (1 : Int32))) (4643211215818981376 : UInt64))), .second, .val (.int 2), .val (.double 9218868437227405312), .second, .unset, .unset, .unset, .unset] [] _
      refine XS.iload X0.here hx rfl (hb hby at_30) rfl ?_
      show own_S p e below s₁ m 32 #[.val (.int p0), .val (.int p1), .val (.int p2), .val (.long q3), .second, .val (.double (FP.ddiv (FP.i2d ((p0 &&& (255 : Int32)) + (1 : Int32))) (4643211215818981376 : UInt64))), .second, .val (.int 2), .val (.double 9218868437227405312), .second, .unset, .unset, .unset, .unset] [(.int 2)] _
      refine XS.bipush X0.here hx rfl (hb hby at_32) ?_
      show own_S p e below s₁ m 34 #[.val (.int p0), .val (.int p1), .val (.int p2), .val (.long q3), .second, .val (.double (FP.ddiv (FP.i2d ((p0 &&& (255 : Int32)) + (1 : Int32))) (4643211215818981376 : UInt64))), .second, .val (.int 2), .val (.double 9218868437227405312), .second, .unset, .unset, .unset, .unset] [(.int 7), (.int 2)] _
      refine XS.icmpYes X0.here hx rfl (pc0 := 34) (pc' := 44) rfl (hb hby at_34) rfl (feq (by decide : ¬ ((2 : Int32) = (7 : Int32)))).2 (by decide) (by decide) ?_
      show own_S p e below s₁ m 44 #[.val (.int p0), .val (.int p1), .val (.int p2), .val (.long q3), .second, .val (.double (FP.ddiv (FP.i2d ((p0 &&& (255 : Int32)) + (1 : Int32))) (4643211215818981376 : UInt64))), .second, .val (.int 2), .val (.double 9218868437227405312), .second, .unset, .unset, .unset, .unset] [] _
      refine XS.iload X0.here hx rfl (hb hby at_44) rfl ?_
      show own_S p e below s₁ m 46 #[.val (.int p0), .val (.int p1), .val (.int p2), .val (.long q3), .second, .val (.double (FP.ddiv (FP.i2d ((p0 &&& (255 : Int32)) + (1 : Int32))) (4643211215818981376 : UInt64))), .second, .val (.int 2), .val (.double 9218868437227405312), .second, .unset, .unset, .unset, .unset] [(.int 2)] _
      refine XS.iconst X0.here hx rfl (hb hby at_46) ?_
      show own_S p e below s₁ m 47 #[.val (.int p0), .val (.int p1), .val (.int p2), .val (.long q3), .second, .val (.double (FP.ddiv (FP.i2d ((p0 &&& (255 : Int32)) + (1 : Int32))) (4643211215818981376 : UInt64))), .second, .val (.int 2), .val (.double 9218868437227405312), .second, .unset, .unset, .unset, .unset] [(.int 1), (.int 2)] _
      refine XS.icmpYes X0.here hx rfl (pc0 := 47) (pc' := 60) rfl (hb hby at_47) rfl (feq (by decide : ¬ ((2 : Int32) = (1 : Int32)))).2 (by decide) (by decide) ?_
      show own_S p e below s₁ m 60 #[.val (.int p0), .val (.int p1), .val (.int p2), .val (.long q3), .second, .val (.double (FP.ddiv (FP.i2d ((p0 &&& (255 : Int32)) + (1 : Int32))) (4643211215818981376 : UInt64))), .second, .val (.int 2), .val (.double 9218868437227405312), .second, .unset, .unset, .unset, .unset] [] _
      refine XS.iload X0.here hx rfl (hb hby at_60) rfl ?_
      show own_S p e below s₁ m 62 #[.val (.int p0), .val (.int p1), .val (.int p2), .val (.long q3), .second, .val (.double (FP.ddiv (FP.i2d ((p0 &&& (255 : Int32)) + (1 : Int32))) (4643211215818981376 : UInt64))), .second, .val (.int 2), .val (.double 9218868437227405312), .second, .unset, .unset, .unset, .unset] [(.int 2)] _
      refine XS.iconst X0.here hx rfl (hb hby at_62) ?_
      show own_S p e below s₁ m 63 #[.val (.int p0), .val (.int p1), .val (.int p2), .val (.long q3), .second, .val (.double (FP.ddiv (FP.i2d ((p0 &&& (255 : Int32)) + (1 : Int32))) (4643211215818981376 : UInt64))), .second, .val (.int 2), .val (.double 9218868437227405312), .second, .unset, .unset, .unset, .unset] [(.int 2), (.int 2)] _
      refine XS.icmpNo X0.here hx rfl (hb hby at_63) rfl (teq (by decide : (2 : Int32) = (2 : Int32))).2 ?_
      show own_S p e below s₁ m 66 #[.val (.int p0), .val (.int p1), .val (.int p2), .val (.long q3), .second, .val (.double (FP.ddiv (FP.i2d ((p0 &&& (255 : Int32)) + (1 : Int32))) (4643211215818981376 : UInt64))), .second, .val (.int 2), .val (.double 9218868437227405312), .second, .unset, .unset, .unset, .unset] [] _
      refine X0.ldc2DoubleC hx hown (mvT hZ (own_w hw 27 rfl)) (g := (mkF m 66 #[.val (.int p0), .val (.int p1), .val (.int p2), .val (.long q3), .second, .val (.double (FP.ddiv (FP.i2d ((p0 &&& (255 : Int32)) + (1 : Int32))) (4643211215818981376 : UInt64))), .second, .val (.int 2), .val (.double 9218868437227405312), .second, .unset, .unset, .unset, .unset] [])) rfl (hb hby at_66) _ ?_
      show own_S p e below s₁ m 69 #[.val (.int p0), .val (.int p1), .val (.int p2), .val (.long q3), .second, .val (.double (FP.ddiv (FP.i2d ((p0 &&& (255 : Int32)) + (1 : Int32))) (4643211215818981376 : UInt64))), .second, .val (.int 2), .val (.double 9218868437227405312), .second, .unset, .unset, .unset, .unset] [(.double 9218868437227405311)] _
      refine XS.dstore X0.here hx rfl (hb hby at_69) rfl (l' := #[.val (.int p0), .val (.int p1), .val (.int p2), .val (.long q3), .second, .val (.double (FP.ddiv (FP.i2d ((p0 &&& (255 : Int32)) + (1 : Int32))) (4643211215818981376 : UInt64))), .second, .val (.int 2), .val (.double 9218868437227405312), .second, .val (.double 9218868437227405311), .second, .unset, .unset]) rfl ?_
      show own_S p e below s₁ m 71 #[.val (.int p0), .val (.int p1), .val (.int p2), .val (.long q3), .second, .val (.double (FP.ddiv (FP.i2d ((p0 &&& (255 : Int32)) + (1 : Int32))) (4643211215818981376 : UInt64))), .second, .val (.int 2), .val (.double 9218868437227405312), .second, .val (.double 9218868437227405311), .second, .unset, .unset] [] _
      refine XS.goto X0.here hx rfl (pc0 := 71) (pc' := 130) rfl (hb hby at_71) (by decide) (by decide) ?_
      show own_S p e below s₁ m 130 #[.val (.int p0), .val (.int p1), .val (.int p2), .val (.long q3), .second, .val (.double (FP.ddiv (FP.i2d ((p0 &&& (255 : Int32)) + (1 : Int32))) (4643211215818981376 : UInt64))), .second, .val (.int 2), .val (.double 9218868437227405312), .second, .val (.double 9218868437227405311), .second, .unset, .unset] [] _
      refine st112 _ ?_
      show own_S p e below T112 m 133 #[.val (.int p0), .val (.int p1), .val (.int p2), .val (.long q3), .second, .val (.double (FP.ddiv (FP.i2d ((p0 &&& (255 : Int32)) + (1 : Int32))) (4643211215818981376 : UInt64))), .second, .val (.int 2), .val (.double 9218868437227405312), .second, .val (.double 9218868437227405311), .second, .unset, .unset] [(.ref b112)] _
      refine XS.dup X112.here hx rfl (hb hby at_133) rfl rfl ?_
      show own_S p e below T112 m 134 #[.val (.int p0), .val (.int p1), .val (.int p2), .val (.long q3), .second, .val (.double (FP.ddiv (FP.i2d ((p0 &&& (255 : Int32)) + (1 : Int32))) (4643211215818981376 : UInt64))), .second, .val (.int 2), .val (.double 9218868437227405312), .second, .val (.double 9218868437227405311), .second, .unset, .unset] [(.ref b112), (.ref b112)] _
      refine XS.dload X112.here hx rfl (hb hby at_134) rfl ?_
      show own_S p e below T112 m 136 #[.val (.int p0), .val (.int p1), .val (.int p2), .val (.long q3), .second, .val (.double (FP.ddiv (FP.i2d ((p0 &&& (255 : Int32)) + (1 : Int32))) (4643211215818981376 : UInt64))), .second, .val (.int 2), .val (.double 9218868437227405312), .second, .val (.double 9218868437227405311), .second, .unset, .unset] [(.double (FP.ddiv (FP.i2d ((p0 &&& (255 : Int32)) + (1 : Int32))) (4643211215818981376 : UInt64))), (.ref b112), (.ref b112)] _
      refine XS.dload X112.here hx rfl (hb hby at_136) rfl ?_
      show own_S p e below T112 m 138 #[.val (.int p0), .val (.int p1), .val (.int p2), .val (.long q3), .second, .val (.double (FP.ddiv (FP.i2d ((p0 &&& (255 : Int32)) + (1 : Int32))) (4643211215818981376 : UInt64))), .second, .val (.int 2), .val (.double 9218868437227405312), .second, .val (.double 9218868437227405311), .second, .unset, .unset] [(.double 9218868437227405311), (.double (FP.ddiv (FP.i2d ((p0 &&& (255 : Int32)) + (1 : Int32))) (4643211215818981376 : UInt64))), (.ref b112), (.ref b112)] _
      refine st114.trans ?_
      show own_S p e below T114 m 141 #[.val (.int p0), .val (.int p1), .val (.int p2), .val (.long q3), .second, .val (.double (FP.ddiv (FP.i2d ((p0 &&& (255 : Int32)) + (1 : Int32))) (4643211215818981376 : UInt64))), .second, .val (.int 2), .val (.double 9218868437227405312), .second, .val (.double 9218868437227405311), .second, .unset, .unset] [(.ref b112)] _
      refine XS.astore X114.here hx rfl (hb hby at_141) rfl rfl (l' := #[.val (.int p0), .val (.int p1), .val (.int p2), .val (.long q3), .second, .val (.double (FP.ddiv (FP.i2d ((p0 &&& (255 : Int32)) + (1 : Int32))) (4643211215818981376 : UInt64))), .second, .val (.int 2), .val (.double 9218868437227405312), .second, .val (.double 9218868437227405311), .second, .val (.ref b112), .unset]) rfl ?_
      show own_S p e below T114 m 143 #[.val (.int p0), .val (.int p1), .val (.int p2), .val (.long q3), .second, .val (.double (FP.ddiv (FP.i2d ((p0 &&& (255 : Int32)) + (1 : Int32))) (4643211215818981376 : UInt64))), .second, .val (.int 2), .val (.double 9218868437227405312), .second, .val (.double 9218868437227405311), .second, .val (.ref b112), .unset] [] _
      refine XS.iload X114.here hx rfl (hb hby at_143) rfl ?_
      show own_S p e below T114 m 145 #[.val (.int p0), .val (.int p1), .val (.int p2), .val (.long q3), .second, .val (.double (FP.ddiv (FP.i2d ((p0 &&& (255 : Int32)) + (1 : Int32))) (4643211215818981376 : UInt64))), .second, .val (.int 2), .val (.double 9218868437227405312), .second, .val (.double 9218868437227405311), .second, .val (.ref b112), .unset] [(.int 2)] _
      refine XS.ifNo X114.here hx rfl (hb hby at_145) rfl ((if0 _ _).trans (feq (by decide : ¬ ((2 : Int32) = (0 : Int32)))).1) ?_
      show own_S p e below T114 m 148 #[.val (.int p0), .val (.int p1), .val (.int p2), .val (.long q3), .second, .val (.double (FP.ddiv (FP.i2d ((p0 &&& (255 : Int32)) + (1 : Int32))) (4643211215818981376 : UInt64))), .second, .val (.int 2), .val (.double 9218868437227405312), .second, .val (.double 9218868437227405311), .second, .val (.ref b112), .unset] [] _
      refine XS.iload X114.here hx rfl (hb hby at_148) rfl ?_
      show own_S p e below T114 m 150 #[.val (.int p0), .val (.int p1), .val (.int p2), .val (.long q3), .second, .val (.double (FP.ddiv (FP.i2d ((p0 &&& (255 : Int32)) + (1 : Int32))) (4643211215818981376 : UInt64))), .second, .val (.int 2), .val (.double 9218868437227405312), .second, .val (.double 9218868437227405311), .second, .val (.ref b112), .unset] [(.int 2)] _
      refine XS.bipush X114.here hx rfl (hb hby at_150) ?_
      show own_S p e below T114 m 152 #[.val (.int p0), .val (.int p1), .val (.int p2), .val (.long q3), .second, .val (.double (FP.ddiv (FP.i2d ((p0 &&& (255 : Int32)) + (1 : Int32))) (4643211215818981376 : UInt64))), .second, .val (.int 2), .val (.double 9218868437227405312), .second, .val (.double 9218868437227405311), .second, .val (.ref b112), .unset] [(.int 7), (.int 2)] _
      refine XS.icmpNo X114.here hx rfl (hb hby at_152) rfl (feq (by decide : ¬ ((2 : Int32) = (7 : Int32)))).1 ?_
      show own_S p e below T114 m 155 #[.val (.int p0), .val (.int p1), .val (.int p2), .val (.long q3), .second, .val (.double (FP.ddiv (FP.i2d ((p0 &&& (255 : Int32)) + (1 : Int32))) (4643211215818981376 : UInt64))), .second, .val (.int 2), .val (.double 9218868437227405312), .second, .val (.double 9218868437227405311), .second, .val (.ref b112), .unset] [] _
      refine XS.iconst X114.here hx rfl (hb hby at_155) ?_
      show own_S p e below T114 m 156 #[.val (.int p0), .val (.int p1), .val (.int p2), .val (.long q3), .second, .val (.double (FP.ddiv (FP.i2d ((p0 &&& (255 : Int32)) + (1 : Int32))) (4643211215818981376 : UInt64))), .second, .val (.int 2), .val (.double 9218868437227405312), .second, .val (.double 9218868437227405311), .second, .val (.ref b112), .unset] [(.int 1)] _
      refine XS.goto X114.here hx rfl (pc0 := 156) (pc' := 160) rfl (hb hby at_156) (by decide) (by decide) ?_
      show own_S p e below T114 m 160 #[.val (.int p0), .val (.int p1), .val (.int p2), .val (.long q3), .second, .val (.double (FP.ddiv (FP.i2d ((p0 &&& (255 : Int32)) + (1 : Int32))) (4643211215818981376 : UInt64))), .second, .val (.int 2), .val (.double 9218868437227405312), .second, .val (.double 9218868437227405311), .second, .val (.ref b112), .unset] [(.int 1)] _
      refine XS.istore X114.here hx rfl (hb hby at_160) rfl (l' := #[.val (.int p0), .val (.int p1), .val (.int p2), .val (.long q3), .second, .val (.double (FP.ddiv (FP.i2d ((p0 &&& (255 : Int32)) + (1 : Int32))) (4643211215818981376 : UInt64))), .second, .val (.int 2), .val (.double 9218868437227405312), .second, .val (.double 9218868437227405311), .second, .val (.ref b112), .val (.int 1)]) rfl ?_
      show own_S p e below T114 m 162 #[.val (.int p0), .val (.int p1), .val (.int p2), .val (.long q3), .second, .val (.double (FP.ddiv (FP.i2d ((p0 &&& (255 : Int32)) + (1 : Int32))) (4643211215818981376 : UInt64))), .second, .val (.int 2), .val (.double 9218868437227405312), .second, .val (.double 9218868437227405311), .second, .val (.ref b112), .val (.int 1)] [] _
      refine XS.aload X114.here hx rfl (hb hby at_162) rfl rfl ?_
      show own_S p e below T114 m 164 #[.val (.int p0), .val (.int p1), .val (.int p2), .val (.long q3), .second, .val (.double (FP.ddiv (FP.i2d ((p0 &&& (255 : Int32)) + (1 : Int32))) (4643211215818981376 : UInt64))), .second, .val (.int 2), .val (.double 9218868437227405312), .second, .val (.double 9218868437227405311), .second, .val (.ref b112), .val (.int 1)] [(.ref b112)] _
      refine st116.trans ?_
      show own_S p e below T116 m 167 #[.val (.int p0), .val (.int p1), .val (.int p2), .val (.long q3), .second, .val (.double (FP.ddiv (FP.i2d ((p0 &&& (255 : Int32)) + (1 : Int32))) (4643211215818981376 : UInt64))), .second, .val (.int 2), .val (.double 9218868437227405312), .second, .val (.double 9218868437227405311), .second, .val (.ref b112), .val (.int 1)] [(.int (own_rch (9218868437227405311 : UInt64)))] _
      refine reI (own_rfin (by unfold Fin64; decide) : (own_rch (9218868437227405311 : UInt64)) = (1 : Int32)) ?_
      show own_S p e below T116 m 167 #[.val (.int p0), .val (.int p1), .val (.int p2), .val (.long q3), .second, .val (.double (FP.ddiv (FP.i2d ((p0 &&& (255 : Int32)) + (1 : Int32))) (4643211215818981376 : UInt64))), .second, .val (.int 2), .val (.double 9218868437227405312), .second, .val (.double 9218868437227405311), .second, .val (.ref b112), .val (.int 1)] [(.int 1)] _
      refine XS.iload X116.here hx rfl (hb hby at_167) rfl ?_
      show own_S p e below T116 m 169 #[.val (.int p0), .val (.int p1), .val (.int p2), .val (.long q3), .second, .val (.double (FP.ddiv (FP.i2d ((p0 &&& (255 : Int32)) + (1 : Int32))) (4643211215818981376 : UInt64))), .second, .val (.int 2), .val (.double 9218868437227405312), .second, .val (.double 9218868437227405311), .second, .val (.ref b112), .val (.int 1)] [(.int 1), (.int 1)] _
      refine XS.icmpNo X116.here hx rfl (hb hby at_169) rfl (teq (by decide : (1 : Int32) = (1 : Int32))).2 ?_
      show own_S p e below T116 m 172 #[.val (.int p0), .val (.int p1), .val (.int p2), .val (.long q3), .second, .val (.double (FP.ddiv (FP.i2d ((p0 &&& (255 : Int32)) + (1 : Int32))) (4643211215818981376 : UInt64))), .second, .val (.int 2), .val (.double 9218868437227405312), .second, .val (.double 9218868437227405311), .second, .val (.ref b112), .val (.int 1)] [] _
      refine XS.iconst X116.here hx rfl (hb hby at_172) ?_
      show own_S p e below T116 m 173 #[.val (.int p0), .val (.int p1), .val (.int p2), .val (.long q3), .second, .val (.double (FP.ddiv (FP.i2d ((p0 &&& (255 : Int32)) + (1 : Int32))) (4643211215818981376 : UInt64))), .second, .val (.int 2), .val (.double 9218868437227405312), .second, .val (.double 9218868437227405311), .second, .val (.ref b112), .val (.int 1)] [(.int 1)] _
      refine XS.goto X116.here hx rfl (pc0 := 173) (pc' := 177) rfl (hb hby at_173) (by decide) (by decide) ?_
      show own_S p e below T116 m 177 #[.val (.int p0), .val (.int p1), .val (.int p2), .val (.long q3), .second, .val (.double (FP.ddiv (FP.i2d ((p0 &&& (255 : Int32)) + (1 : Int32))) (4643211215818981376 : UInt64))), .second, .val (.int 2), .val (.double 9218868437227405312), .second, .val (.double 9218868437227405311), .second, .val (.ref b112), .val (.int 1)] [(.int 1)] _
      exact retN X116 hx (t := .boolean) Bd.returns (by simp) (hb hby at_177) hr
    · show Qm0 Z p0 p1 p2 q3 h0 n0 _ T116.heap _
      rw [P116_0]
      exact ⟨rfl, N116⟩
  · skip
    have hge : 0 ≤ (q3 &&& (9223372036854775807 : Int64)).toInt := (own_maskL (x := q3) (m := 9223372036854775807) (k := 63) (by decide) (by decide)).1
    obtain ⟨T117, h117, X117, e117, E117, A117, D117, -, st117⟩ := newO X0 hx hZ hown (own_w hw 3 rfl) (own_w hw 4 rfl) (own_w hw 5 rfl) e0 (g := (mkF m 130 #[.val (.int p0), .val (.int p1), .val (.int p2), .val (.long q3), .second, .val (.double (FP.ddiv (FP.i2d ((p0 &&& (255 : Int32)) + (1 : Int32))) (4643211215818981376 : UInt64))), .second, .val (.int 3), .val (.double 9218868437227405312), .second, .val (.double (FP.l2d (q3 &&& (9223372036854775807 : Int64)))), .second, .unset, .unset] [])) rfl (hb hby at_130) (by decide) (by decide)
    obtain ⟨b117, g117⟩ : ∃ z, z = h0.size := ⟨_, rfl⟩
    rw [← g117] at A117 D117 st117
    have g_b117 : n0 ≤ b117 := Nat.le_trans Z0 (Nat.le_of_eq g117.symm)
    have ZZ118 : n0 ≤ h117.size := Nat.le_trans Z0 E117.1
    have F_servedShare_b117 : Fld Z h117 b117 "com/example/fireweed/fireweed/model/ServiceTarget" "servedShare" "D" (.double 0) := D117 (Or.inr (own_w hw 18 rfl)) (ty := .double) (by decide)
    have F_maxMeanWaitS_b117 : Fld Z h117 b117 "com/example/fireweed/fireweed/model/ServiceTarget" "maxMeanWaitS" "D" (.double 0) := D117 (Or.inr (own_w hw 20 rfl)) (ty := .double) (by decide)
    obtain ⟨_, _, ⟨T119, L119, k119, n119⟩, -, X119, ⟨Lc119, hQ119, l119, y119, z119⟩, st119⟩ := X117.specialBack hx (y := (⟨"com/example/fireweed/fireweed/model/ServiceTarget", "<init>", "(DD)V"⟩ : MethodName)) rfl hown (mvT hZ (own_w hw 6 rfl)) (mvT hZ (own_w hw 7 rfl)) (mvT hZ (own_w hw 8 rfl)) (by decide) (backOf (W := 1) (rmm1 l Z a0 hw [] b117 (FP.ddiv (FP.i2d ((p0 &&& (255 : Int32)) + (1 : Int32))) (4643211215818981376 : UInt64)) (FP.l2d (q3 &&& (9223372036854775807 : Int64))) (.double 0) (.double 0) h117 n0 ZZ118 F_servedShare_b117 F_maxMeanWaitS_b117 A117 g_b117 hs6 hs12 (own_lnn hge)) hZ (own_w hw 8 rfl) (own_w hw 5 rfl) (by decide) (by decide)) (g := (mkF m 138 #[.val (.int p0), .val (.int p1), .val (.int p2), .val (.long q3), .second, .val (.double (FP.ddiv (FP.i2d ((p0 &&& (255 : Int32)) + (1 : Int32))) (4643211215818981376 : UInt64))), .second, .val (.int 3), .val (.double 9218868437227405312), .second, .val (.double (FP.l2d (q3 &&& (9223372036854775807 : Int64)))), .second, .unset, .unset] [(.double (FP.l2d (q3 &&& (9223372036854775807 : Int64)))), (.double (FP.ddiv (FP.i2d ((p0 &&& (255 : Int32)) + (1 : Int32))) (4643211215818981376 : UInt64))), (.ref b117), (.ref b117)])) rfl (by rw [hml]; rfl) (Steps.refl _) (a := b117) (argsL := [(.double (FP.ddiv (FP.i2d ((p0 &&& (255 : Int32)) + (1 : Int32))) (4643211215818981376 : UInt64))), (.double (FP.l2d (q3 &&& (9223372036854775807 : Int64))))]) (rest := [(.ref b117)]) (lenOf pd1 rfl) rfl (by show 2 * 0 + _ ≤ _; exact Nat.le_of_eq rfl) (hb hby at_138) (fun _ _ => ⟨rfl, e117, (by decide : 1 + 0 ≤ _), (by decide : 2 + 0 ≤ _)⟩)
    dsimp only [Pt.U, Pt.locs, Pt.cells, Pt.slots] at X119 l119 y119 z119 st119 hQ119
    subst l119 y119 z119
    obtain ⟨rfl, Nq119, P119_0, P119_1, P119_2, P119_3⟩ := hQ119
    have N119 := Fr.app N0 Nq119
    have ZZ120 : n0 ≤ T119.heap.size := Nat.le_trans ZZ118 P119_0.1
    obtain ⟨cq121, kq121, q121a, q121b, q121c⟩ := isOf hZ rfl P119_1
    obtain ⟨_, _, ⟨T121, L121, k121, n121⟩, -, X121, ⟨Lc121, hQ121, l121, y121, z121⟩, st121⟩ := X119.virtualBack hx (y := (⟨"com/example/fireweed/fireweed/model/ServiceTarget", "capsWait", "()Z"⟩ : MethodName)) (z := (⟨"com/example/fireweed/fireweed/model/ServiceTarget", "capsWait", "()Z"⟩ : MethodName)) hown (mvT hZ (own_w hw 21 rfl)) (mvT hZ (own_w hw 22 rfl)) (notFace_of_selects (args := #[]) (mvT hZ (own_w hw 24 rfl))) (mvT hZ (own_w hw 24 rfl)) (mvT hZ (own_w hw 23 rfl)) (by decide) (backOf (W := 0) (rmm4 l Z a0 hw [] b117 (FP.l2d (q3 &&& (9223372036854775807 : Int64))) T119.heap n0 ZZ120 P119_3) hZ (own_w hw 25 rfl) (own_w hw 5 rfl) (by decide) (by decide)) q121a q121c (g := (mkF m 164 #[.val (.int p0), .val (.int p1), .val (.int p2), .val (.long q3), .second, .val (.double (FP.ddiv (FP.i2d ((p0 &&& (255 : Int32)) + (1 : Int32))) (4643211215818981376 : UInt64))), .second, .val (.int 3), .val (.double 9218868437227405312), .second, .val (.double (FP.l2d (q3 &&& (9223372036854775807 : Int64)))), .second, .val (.ref b117), .val (.int 1)] [(.ref b117)])) rfl (by rw [hml]; rfl) (Steps.refl _) (argsL := []) (rest := []) (lenOf pd2 rfl) rfl (by show 2 * 0 + _ ≤ _; exact Nat.le_of_eq rfl) (hb hby at_164) (fun _ _ => ⟨rfl, rfl, (by decide : 1 + 0 ≤ _), (by decide : 2 + 0 ≤ _)⟩)
    dsimp only [Pt.U, Pt.locs, Pt.cells, Pt.slots] at X121 l121 y121 z121 st121 hQ121
    subst l121 y121 z121
    obtain ⟨rfl, Nq121, P121_0⟩ := hQ121
    have N121 := Fr.app N119 Nq121
    obtain ⟨fs, hr, hrun, hended, hW, hsame⟩ := X121.leave (v := some (.int 1)) (fun h => by rw [Bd.returns] at h; cases h)
    refine ⟨_, _, pre0 _ (pre101 _ ?_), hrun, hended, _, _, rfl, ?_, ⟨_, rfl⟩, hW, hsame.mono (by decide) (by decide)⟩
    · show own_S p e below s₁ m 18 #[.val (.int p0), .val (.int p1), .val (.int p2), .val (.long q3), .second, .val (.double (FP.ddiv (FP.i2d ((p0 &&& (255 : Int32)) + (1 : Int32))) (4643211215818981376 : UInt64))), .second, .unset, .unset, .unset, .unset, .unset, .unset, .unset] [(.int (p1 &&& (7 : Int32)))] _
      refine reI (hk : (p1 &&& (7 : Int32)) = (3 : Int32)) ?_
      show own_S p e below s₁ m 18 #[.val (.int p0), .val (.int p1), .val (.int p2), .val (.long q3), .second, .val (.double (FP.ddiv (FP.i2d ((p0 &&& (255 : Int32)) + (1 : Int32))) (4643211215818981376 : UInt64))), .second, .unset, .unset, .unset, .unset, .unset, .unset, .unset] [(.int 3)] _
      refine XS.istore X0.here hx rfl (hb hby at_18) rfl (l' := #[.val (.int p0), .val (.int p1), .val (.int p2), .val (.long q3), .second, .val (.double (FP.ddiv (FP.i2d ((p0 &&& (255 : Int32)) + (1 : Int32))) (4643211215818981376 : UInt64))), .second, .val (.int 3), .unset, .unset, .unset, .unset, .unset, .unset]) rfl ?_
      show own_S p e below s₁ m 20 #[.val (.int p0), .val (.int p1), .val (.int p2), .val (.long q3), .second, .val (.double (FP.ddiv (FP.i2d ((p0 &&& (255 : Int32)) + (1 : Int32))) (4643211215818981376 : UInt64))), .second, .val (.int 3), .unset, .unset, .unset, .unset, .unset, .unset] [] _
      refine X0.ldc2DoubleC hx hown (mvT hZ (own_w hw 1 rfl)) (g := (mkF m 20 #[.val (.int p0), .val (.int p1), .val (.int p2), .val (.long q3), .second, .val (.double (FP.ddiv (FP.i2d ((p0 &&& (255 : Int32)) + (1 : Int32))) (4643211215818981376 : UInt64))), .second, .val (.int 3), .unset, .unset, .unset, .unset, .unset, .unset] [])) rfl (hb hby at_20) _ ?_
      show own_S p e below s₁ m 23 #[.val (.int p0), .val (.int p1), .val (.int p2), .val (.long q3), .second, .val (.double (FP.ddiv (FP.i2d ((p0 &&& (255 : Int32)) + (1 : Int32))) (4643211215818981376 : UInt64))), .second, .val (.int 3), .unset, .unset, .unset, .unset, .unset, .unset] [(.double 9218868437227405312)] _
      refine XS.dstore X0.here hx rfl (hb hby at_23) rfl (l' := #[.val (.int p0), .val (.int p1), .val (.int p2), .val (.long q3), .second, .val (.double (FP.ddiv (FP.i2d ((p0 &&& (255 : Int32)) + (1 : Int32))) (4643211215818981376 : UInt64))), .second, .val (.int 3), .val (.double 9218868437227405312), .second, .unset, .unset, .unset, .unset]) rfl ?_
      show own_S p e below s₁ m 25 #[.val (.int p0), .val (.int p1), .val (.int p2), .val (.long q3), .second, .val (.double (FP.ddiv (FP.i2d ((p0 &&& (255 : Int32)) + (1 : Int32))) (4643211215818981376 : UInt64))), .second, .val (.int 3), .val (.double 9218868437227405312), .second, .unset, .unset, .unset, .unset] [] _
      refine XS.iload X0.here hx rfl (hb hby at_25) rfl ?_
      show own_S p e below s₁ m 27 #[.val (.int p0), .val (.int p1), .val (.int p2), .val (.long q3), .second, .val (.double (FP.ddiv (FP.i2d ((p0 &&& (255 : Int32)) + (1 : Int32))) (4643211215818981376 : UInt64))), .second, .val (.int 3), .val (.double 9218868437227405312), .second, .unset, .unset, .unset, .unset] [(.int 3)] _
      refine XS.ifNo X0.here hx rfl (hb hby at_27) rfl ((if0 _ _).trans (feq (by decide : ¬ ((3 : Int32) = (0 : Int32)))).1) ?_
      show own_S p e below s₁ m 30 #[.val (.int p0), .val (.int p1), .val (.int p2), .val (.long q3), .second, .val (.double (FP.ddiv (FP.i2d ((p0 &&& (255 : Int32)) + (1 : Int32))) (4643211215818981376 : UInt64))), .second, .val (.int 3), .val (.double 9218868437227405312), .second, .unset, .unset, .unset, .unset] [] _
      refine XS.iload X0.here hx rfl (hb hby at_30) rfl ?_
      show own_S p e below s₁ m 32 #[.val (.int p0), .val (.int p1), .val (.int p2), .val (.long q3), .second, .val (.double (FP.ddiv (FP.i2d ((p0 &&& (255 : Int32)) + (1 : Int32))) (4643211215818981376 : UInt64))), .second, .val (.int 3), .val (.double 9218868437227405312), .second, .unset, .unset, .unset, .unset] [(.int 3)] _
      refine XS.bipush X0.here hx rfl (hb hby at_32) ?_
      show own_S p e below s₁ m 34 #[.val (.int p0), .val (.int p1), .val (.int p2), .val (.long q3), .second, .val (.double (FP.ddiv (FP.i2d ((p0 &&& (255 : Int32)) + (1 : Int32))) (4643211215818981376 : UInt64))), .second, .val (.int 3), .val (.double 9218868437227405312), .second, .unset, .unset, .unset, .unset] [(.int 7), (.int 3)] _
      refine XS.icmpYes X0.here hx rfl (pc0 := 34) (pc' := 44) rfl (hb hby at_34) rfl (feq (by decide : ¬ ((3 : Int32) = (7 : Int32)))).2 (by decide) (by decide) ?_
      show own_S p e below s₁ m 44 #[.val (.int p0), .val (.int p1), .val (.int p2), .val (.long q3), .second, .val (.double (FP.ddiv (FP.i2d ((p0 &&& (255 : Int32)) + (1 : Int32))) (4643211215818981376 : UInt64))), .second, .val (.int 3), .val (.double 9218868437227405312), .second, .unset, .unset, .unset, .unset] [] _
      refine XS.iload X0.here hx rfl (hb hby at_44) rfl ?_
      show own_S p e below s₁ m 46 #[.val (.int p0), .val (.int p1), .val (.int p2), .val (.long q3), .second, .val (.double (FP.ddiv (FP.i2d ((p0 &&& (255 : Int32)) + (1 : Int32))) (4643211215818981376 : UInt64))), .second, .val (.int 3), .val (.double 9218868437227405312), .second, .unset, .unset, .unset, .unset] [(.int 3)] _
      refine XS.iconst X0.here hx rfl (hb hby at_46) ?_
      show own_S p e below s₁ m 47 #[.val (.int p0), .val (.int p1), .val (.int p2), .val (.long q3), .second, .val (.double (FP.ddiv (FP.i2d ((p0 &&& (255 : Int32)) + (1 : Int32))) (4643211215818981376 : UInt64))), .second, .val (.int 3), .val (.double 9218868437227405312), .second, .unset, .unset, .unset, .unset] [(.int 1), (.int 3)] _
      refine XS.icmpYes X0.here hx rfl (pc0 := 47) (pc' := 60) rfl (hb hby at_47) rfl (feq (by decide : ¬ ((3 : Int32) = (1 : Int32)))).2 (by decide) (by decide) ?_
      show own_S p e below s₁ m 60 #[.val (.int p0), .val (.int p1), .val (.int p2), .val (.long q3), .second, .val (.double (FP.ddiv (FP.i2d ((p0 &&& (255 : Int32)) + (1 : Int32))) (4643211215818981376 : UInt64))), .second, .val (.int 3), .val (.double 9218868437227405312), .second, .unset, .unset, .unset, .unset] [] _
      refine XS.iload X0.here hx rfl (hb hby at_60) rfl ?_
      show own_S p e below s₁ m 62 #[.val (.int p0), .val (.int p1), .val (.int p2), .val (.long q3), .second, .val (.double (FP.ddiv (FP.i2d ((p0 &&& (255 : Int32)) + (1 : Int32))) (4643211215818981376 : UInt64))), .second, .val (.int 3), .val (.double 9218868437227405312), .second, .unset, .unset, .unset, .unset] [(.int 3)] _
      refine XS.iconst X0.here hx rfl (hb hby at_62) ?_
      show own_S p e below s₁ m 63 #[.val (.int p0), .val (.int p1), .val (.int p2), .val (.long q3), .second, .val (.double (FP.ddiv (FP.i2d ((p0 &&& (255 : Int32)) + (1 : Int32))) (4643211215818981376 : UInt64))), .second, .val (.int 3), .val (.double 9218868437227405312), .second, .unset, .unset, .unset, .unset] [(.int 2), (.int 3)] _
      refine XS.icmpYes X0.here hx rfl (pc0 := 63) (pc' := 74) rfl (hb hby at_63) rfl (feq (by decide : ¬ ((3 : Int32) = (2 : Int32)))).2 (by decide) (by decide) ?_
      show own_S p e below s₁ m 74 #[.val (.int p0), .val (.int p1), .val (.int p2), .val (.long q3), .second, .val (.double (FP.ddiv (FP.i2d ((p0 &&& (255 : Int32)) + (1 : Int32))) (4643211215818981376 : UInt64))), .second, .val (.int 3), .val (.double 9218868437227405312), .second, .unset, .unset, .unset, .unset] [] _
      refine XS.iload X0.here hx rfl (hb hby at_74) rfl ?_
      show own_S p e below s₁ m 76 #[.val (.int p0), .val (.int p1), .val (.int p2), .val (.long q3), .second, .val (.double (FP.ddiv (FP.i2d ((p0 &&& (255 : Int32)) + (1 : Int32))) (4643211215818981376 : UInt64))), .second, .val (.int 3), .val (.double 9218868437227405312), .second, .unset, .unset, .unset, .unset] [(.int 3)] _
      refine XS.iconst X0.here hx rfl (hb hby at_76) ?_
      show own_S p e below s₁ m 77 #[.val (.int p0), .val (.int p1), .val (.int p2), .val (.long q3), .second, .val (.double (FP.ddiv (FP.i2d ((p0 &&& (255 : Int32)) + (1 : Int32))) (4643211215818981376 : UInt64))), .second, .val (.int 3), .val (.double 9218868437227405312), .second, .unset, .unset, .unset, .unset] [(.int 3), (.int 3)] _
      refine XS.icmpNo X0.here hx rfl (hb hby at_77) rfl (teq (by decide : (3 : Int32) = (3 : Int32))).2 ?_
      show own_S p e below s₁ m 80 #[.val (.int p0), .val (.int p1), .val (.int p2), .val (.long q3), .second, .val (.double (FP.ddiv (FP.i2d ((p0 &&& (255 : Int32)) + (1 : Int32))) (4643211215818981376 : UInt64))), .second, .val (.int 3), .val (.double 9218868437227405312), .second, .unset, .unset, .unset, .unset] [] _
      refine XS.lloadN X0.here hx rfl (hb hby at_80) rfl ?_
      show own_S p e below s₁ m 81 #[.val (.int p0), .val (.int p1), .val (.int p2), .val (.long q3), .second, .val (.double (FP.ddiv (FP.i2d ((p0 &&& (255 : Int32)) + (1 : Int32))) (4643211215818981376 : UInt64))), .second, .val (.int 3), .val (.double 9218868437227405312), .second, .unset, .unset, .unset, .unset] [(.long q3)] _
      refine X0.ldc2Long hx hown (mvT hZ (own_w hw 2 rfl)) (g := (mkF m 81 #[.val (.int p0), .val (.int p1), .val (.int p2), .val (.long q3), .second, .val (.double (FP.ddiv (FP.i2d ((p0 &&& (255 : Int32)) + (1 : Int32))) (4643211215818981376 : UInt64))), .second, .val (.int 3), .val (.double 9218868437227405312), .second, .unset, .unset, .unset, .unset] [(.long q3)])) rfl (hb hby at_81) _ ?_
      show own_S p e below s₁ m 84 #[.val (.int p0), .val (.int p1), .val (.int p2), .val (.long q3), .second, .val (.double (FP.ddiv (FP.i2d ((p0 &&& (255 : Int32)) + (1 : Int32))) (4643211215818981376 : UInt64))), .second, .val (.int 3), .val (.double 9218868437227405312), .second, .unset, .unset, .unset, .unset] [(.long (9223372036854775807 : Int64)), (.long q3)] _
      refine XS.land X0.here hx rfl (hb hby at_84) rfl ?_
      show own_S p e below s₁ m 85 #[.val (.int p0), .val (.int p1), .val (.int p2), .val (.long q3), .second, .val (.double (FP.ddiv (FP.i2d ((p0 &&& (255 : Int32)) + (1 : Int32))) (4643211215818981376 : UInt64))), .second, .val (.int 3), .val (.double 9218868437227405312), .second, .unset, .unset, .unset, .unset] [(.long (q3 &&& (9223372036854775807 : Int64)))] _
      refine XS.l2dS X0.here hx rfl (v := (FP.l2d (q3 &&& (9223372036854775807 : Int64)))) (hb hby at_85) rfl rfl ?_
      show own_S p e below s₁ m 86 #[.val (.int p0), .val (.int p1), .val (.int p2), .val (.long q3), .second, .val (.double (FP.ddiv (FP.i2d ((p0 &&& (255 : Int32)) + (1 : Int32))) (4643211215818981376 : UInt64))), .second, .val (.int 3), .val (.double 9218868437227405312), .second, .unset, .unset, .unset, .unset] [(.double (FP.l2d (q3 &&& (9223372036854775807 : Int64))))] _
      refine XS.dstore X0.here hx rfl (hb hby at_86) rfl (l' := #[.val (.int p0), .val (.int p1), .val (.int p2), .val (.long q3), .second, .val (.double (FP.ddiv (FP.i2d ((p0 &&& (255 : Int32)) + (1 : Int32))) (4643211215818981376 : UInt64))), .second, .val (.int 3), .val (.double 9218868437227405312), .second, .val (.double (FP.l2d (q3 &&& (9223372036854775807 : Int64)))), .second, .unset, .unset]) rfl ?_
      show own_S p e below s₁ m 88 #[.val (.int p0), .val (.int p1), .val (.int p2), .val (.long q3), .second, .val (.double (FP.ddiv (FP.i2d ((p0 &&& (255 : Int32)) + (1 : Int32))) (4643211215818981376 : UInt64))), .second, .val (.int 3), .val (.double 9218868437227405312), .second, .val (.double (FP.l2d (q3 &&& (9223372036854775807 : Int64)))), .second, .unset, .unset] [] _
      refine XS.goto X0.here hx rfl (pc0 := 88) (pc' := 130) rfl (hb hby at_88) (by decide) (by decide) ?_
      show own_S p e below s₁ m 130 #[.val (.int p0), .val (.int p1), .val (.int p2), .val (.long q3), .second, .val (.double (FP.ddiv (FP.i2d ((p0 &&& (255 : Int32)) + (1 : Int32))) (4643211215818981376 : UInt64))), .second, .val (.int 3), .val (.double 9218868437227405312), .second, .val (.double (FP.l2d (q3 &&& (9223372036854775807 : Int64)))), .second, .unset, .unset] [] _
      refine st117 _ ?_
      show own_S p e below T117 m 133 #[.val (.int p0), .val (.int p1), .val (.int p2), .val (.long q3), .second, .val (.double (FP.ddiv (FP.i2d ((p0 &&& (255 : Int32)) + (1 : Int32))) (4643211215818981376 : UInt64))), .second, .val (.int 3), .val (.double 9218868437227405312), .second, .val (.double (FP.l2d (q3 &&& (9223372036854775807 : Int64)))), .second, .unset, .unset] [(.ref b117)] _
      refine XS.dup X117.here hx rfl (hb hby at_133) rfl rfl ?_
      show own_S p e below T117 m 134 #[.val (.int p0), .val (.int p1), .val (.int p2), .val (.long q3), .second, .val (.double (FP.ddiv (FP.i2d ((p0 &&& (255 : Int32)) + (1 : Int32))) (4643211215818981376 : UInt64))), .second, .val (.int 3), .val (.double 9218868437227405312), .second, .val (.double (FP.l2d (q3 &&& (9223372036854775807 : Int64)))), .second, .unset, .unset] [(.ref b117), (.ref b117)] _
      refine XS.dload X117.here hx rfl (hb hby at_134) rfl ?_
      show own_S p e below T117 m 136 #[.val (.int p0), .val (.int p1), .val (.int p2), .val (.long q3), .second, .val (.double (FP.ddiv (FP.i2d ((p0 &&& (255 : Int32)) + (1 : Int32))) (4643211215818981376 : UInt64))), .second, .val (.int 3), .val (.double 9218868437227405312), .second, .val (.double (FP.l2d (q3 &&& (9223372036854775807 : Int64)))), .second, .unset, .unset] [(.double (FP.ddiv (FP.i2d ((p0 &&& (255 : Int32)) + (1 : Int32))) (4643211215818981376 : UInt64))), (.ref b117), (.ref b117)] _
      refine XS.dload X117.here hx rfl (hb hby at_136) rfl ?_
      show own_S p e below T117 m 138 #[.val (.int p0), .val (.int p1), .val (.int p2), .val (.long q3), .second, .val (.double (FP.ddiv (FP.i2d ((p0 &&& (255 : Int32)) + (1 : Int32))) (4643211215818981376 : UInt64))), .second, .val (.int 3), .val (.double 9218868437227405312), .second, .val (.double (FP.l2d (q3 &&& (9223372036854775807 : Int64)))), .second, .unset, .unset] [(.double (FP.l2d (q3 &&& (9223372036854775807 : Int64)))), (.double (FP.ddiv (FP.i2d ((p0 &&& (255 : Int32)) + (1 : Int32))) (4643211215818981376 : UInt64))), (.ref b117), (.ref b117)] _
      refine st119.trans ?_
      show own_S p e below T119 m 141 #[.val (.int p0), .val (.int p1), .val (.int p2), .val (.long q3), .second, .val (.double (FP.ddiv (FP.i2d ((p0 &&& (255 : Int32)) + (1 : Int32))) (4643211215818981376 : UInt64))), .second, .val (.int 3), .val (.double 9218868437227405312), .second, .val (.double (FP.l2d (q3 &&& (9223372036854775807 : Int64)))), .second, .unset, .unset] [(.ref b117)] _
      refine XS.astore X119.here hx rfl (hb hby at_141) rfl rfl (l' := #[.val (.int p0), .val (.int p1), .val (.int p2), .val (.long q3), .second, .val (.double (FP.ddiv (FP.i2d ((p0 &&& (255 : Int32)) + (1 : Int32))) (4643211215818981376 : UInt64))), .second, .val (.int 3), .val (.double 9218868437227405312), .second, .val (.double (FP.l2d (q3 &&& (9223372036854775807 : Int64)))), .second, .val (.ref b117), .unset]) rfl ?_
      show own_S p e below T119 m 143 #[.val (.int p0), .val (.int p1), .val (.int p2), .val (.long q3), .second, .val (.double (FP.ddiv (FP.i2d ((p0 &&& (255 : Int32)) + (1 : Int32))) (4643211215818981376 : UInt64))), .second, .val (.int 3), .val (.double 9218868437227405312), .second, .val (.double (FP.l2d (q3 &&& (9223372036854775807 : Int64)))), .second, .val (.ref b117), .unset] [] _
      refine XS.iload X119.here hx rfl (hb hby at_143) rfl ?_
      show own_S p e below T119 m 145 #[.val (.int p0), .val (.int p1), .val (.int p2), .val (.long q3), .second, .val (.double (FP.ddiv (FP.i2d ((p0 &&& (255 : Int32)) + (1 : Int32))) (4643211215818981376 : UInt64))), .second, .val (.int 3), .val (.double 9218868437227405312), .second, .val (.double (FP.l2d (q3 &&& (9223372036854775807 : Int64)))), .second, .val (.ref b117), .unset] [(.int 3)] _
      refine XS.ifNo X119.here hx rfl (hb hby at_145) rfl ((if0 _ _).trans (feq (by decide : ¬ ((3 : Int32) = (0 : Int32)))).1) ?_
      show own_S p e below T119 m 148 #[.val (.int p0), .val (.int p1), .val (.int p2), .val (.long q3), .second, .val (.double (FP.ddiv (FP.i2d ((p0 &&& (255 : Int32)) + (1 : Int32))) (4643211215818981376 : UInt64))), .second, .val (.int 3), .val (.double 9218868437227405312), .second, .val (.double (FP.l2d (q3 &&& (9223372036854775807 : Int64)))), .second, .val (.ref b117), .unset] [] _
      refine XS.iload X119.here hx rfl (hb hby at_148) rfl ?_
      show own_S p e below T119 m 150 #[.val (.int p0), .val (.int p1), .val (.int p2), .val (.long q3), .second, .val (.double (FP.ddiv (FP.i2d ((p0 &&& (255 : Int32)) + (1 : Int32))) (4643211215818981376 : UInt64))), .second, .val (.int 3), .val (.double 9218868437227405312), .second, .val (.double (FP.l2d (q3 &&& (9223372036854775807 : Int64)))), .second, .val (.ref b117), .unset] [(.int 3)] _
      refine XS.bipush X119.here hx rfl (hb hby at_150) ?_
      show own_S p e below T119 m 152 #[.val (.int p0), .val (.int p1), .val (.int p2), .val (.long q3), .second, .val (.double (FP.ddiv (FP.i2d ((p0 &&& (255 : Int32)) + (1 : Int32))) (4643211215818981376 : UInt64))), .second, .val (.int 3), .val (.double 9218868437227405312), .second, .val (.double (FP.l2d (q3 &&& (9223372036854775807 : Int64)))), .second, .val (.ref b117), .unset] [(.int 7), (.int 3)] _
      refine XS.icmpNo X119.here hx rfl (hb hby at_152) rfl (feq (by decide : ¬ ((3 : Int32) = (7 : Int32)))).1 ?_
      show own_S p e below T119 m 155 #[.val (.int p0), .val (.int p1), .val (.int p2), .val (.long q3), .second, .val (.double (FP.ddiv (FP.i2d ((p0 &&& (255 : Int32)) + (1 : Int32))) (4643211215818981376 : UInt64))), .second, .val (.int 3), .val (.double 9218868437227405312), .second, .val (.double (FP.l2d (q3 &&& (9223372036854775807 : Int64)))), .second, .val (.ref b117), .unset] [] _
      refine XS.iconst X119.here hx rfl (hb hby at_155) ?_
      show own_S p e below T119 m 156 #[.val (.int p0), .val (.int p1), .val (.int p2), .val (.long q3), .second, .val (.double (FP.ddiv (FP.i2d ((p0 &&& (255 : Int32)) + (1 : Int32))) (4643211215818981376 : UInt64))), .second, .val (.int 3), .val (.double 9218868437227405312), .second, .val (.double (FP.l2d (q3 &&& (9223372036854775807 : Int64)))), .second, .val (.ref b117), .unset] [(.int 1)] _
      refine XS.goto X119.here hx rfl (pc0 := 156) (pc' := 160) rfl (hb hby at_156) (by decide) (by decide) ?_
      show own_S p e below T119 m 160 #[.val (.int p0), .val (.int p1), .val (.int p2), .val (.long q3), .second, .val (.double (FP.ddiv (FP.i2d ((p0 &&& (255 : Int32)) + (1 : Int32))) (4643211215818981376 : UInt64))), .second, .val (.int 3), .val (.double 9218868437227405312), .second, .val (.double (FP.l2d (q3 &&& (9223372036854775807 : Int64)))), .second, .val (.ref b117), .unset] [(.int 1)] _
      refine XS.istore X119.here hx rfl (hb hby at_160) rfl (l' := #[.val (.int p0), .val (.int p1), .val (.int p2), .val (.long q3), .second, .val (.double (FP.ddiv (FP.i2d ((p0 &&& (255 : Int32)) + (1 : Int32))) (4643211215818981376 : UInt64))), .second, .val (.int 3), .val (.double 9218868437227405312), .second, .val (.double (FP.l2d (q3 &&& (9223372036854775807 : Int64)))), .second, .val (.ref b117), .val (.int 1)]) rfl ?_
      show own_S p e below T119 m 162 #[.val (.int p0), .val (.int p1), .val (.int p2), .val (.long q3), .second, .val (.double (FP.ddiv (FP.i2d ((p0 &&& (255 : Int32)) + (1 : Int32))) (4643211215818981376 : UInt64))), .second, .val (.int 3), .val (.double 9218868437227405312), .second, .val (.double (FP.l2d (q3 &&& (9223372036854775807 : Int64)))), .second, .val (.ref b117), .val (.int 1)] [] _
      refine XS.aload X119.here hx rfl (hb hby at_162) rfl rfl ?_
      show own_S p e below T119 m 164 #[.val (.int p0), .val (.int p1), .val (.int p2), .val (.long q3), .second, .val (.double (FP.ddiv (FP.i2d ((p0 &&& (255 : Int32)) + (1 : Int32))) (4643211215818981376 : UInt64))), .second, .val (.int 3), .val (.double 9218868437227405312), .second, .val (.double (FP.l2d (q3 &&& (9223372036854775807 : Int64)))), .second, .val (.ref b117), .val (.int 1)] [(.ref b117)] _
      refine st121.trans ?_
      show own_S p e below T121 m 167 #[.val (.int p0), .val (.int p1), .val (.int p2), .val (.long q3), .second, .val (.double (FP.ddiv (FP.i2d ((p0 &&& (255 : Int32)) + (1 : Int32))) (4643211215818981376 : UInt64))), .second, .val (.int 3), .val (.double 9218868437227405312), .second, .val (.double (FP.l2d (q3 &&& (9223372036854775807 : Int64)))), .second, .val (.ref b117), .val (.int 1)] [(.int (own_rch (FP.l2d (q3 &&& (9223372036854775807 : Int64)))))] _
      refine reI (own_rfin (l2d_fin _) : (own_rch (FP.l2d (q3 &&& (9223372036854775807 : Int64)))) = (1 : Int32)) ?_
      show own_S p e below T121 m 167 #[.val (.int p0), .val (.int p1), .val (.int p2), .val (.long q3), .second, .val (.double (FP.ddiv (FP.i2d ((p0 &&& (255 : Int32)) + (1 : Int32))) (4643211215818981376 : UInt64))), .second, .val (.int 3), .val (.double 9218868437227405312), .second, .val (.double (FP.l2d (q3 &&& (9223372036854775807 : Int64)))), .second, .val (.ref b117), .val (.int 1)] [(.int 1)] _
      refine XS.iload X121.here hx rfl (hb hby at_167) rfl ?_
      show own_S p e below T121 m 169 #[.val (.int p0), .val (.int p1), .val (.int p2), .val (.long q3), .second, .val (.double (FP.ddiv (FP.i2d ((p0 &&& (255 : Int32)) + (1 : Int32))) (4643211215818981376 : UInt64))), .second, .val (.int 3), .val (.double 9218868437227405312), .second, .val (.double (FP.l2d (q3 &&& (9223372036854775807 : Int64)))), .second, .val (.ref b117), .val (.int 1)] [(.int 1), (.int 1)] _
      refine XS.icmpNo X121.here hx rfl (hb hby at_169) rfl (teq (by decide : (1 : Int32) = (1 : Int32))).2 ?_
      show own_S p e below T121 m 172 #[.val (.int p0), .val (.int p1), .val (.int p2), .val (.long q3), .second, .val (.double (FP.ddiv (FP.i2d ((p0 &&& (255 : Int32)) + (1 : Int32))) (4643211215818981376 : UInt64))), .second, .val (.int 3), .val (.double 9218868437227405312), .second, .val (.double (FP.l2d (q3 &&& (9223372036854775807 : Int64)))), .second, .val (.ref b117), .val (.int 1)] [] _
      refine XS.iconst X121.here hx rfl (hb hby at_172) ?_
      show own_S p e below T121 m 173 #[.val (.int p0), .val (.int p1), .val (.int p2), .val (.long q3), .second, .val (.double (FP.ddiv (FP.i2d ((p0 &&& (255 : Int32)) + (1 : Int32))) (4643211215818981376 : UInt64))), .second, .val (.int 3), .val (.double 9218868437227405312), .second, .val (.double (FP.l2d (q3 &&& (9223372036854775807 : Int64)))), .second, .val (.ref b117), .val (.int 1)] [(.int 1)] _
      refine XS.goto X121.here hx rfl (pc0 := 173) (pc' := 177) rfl (hb hby at_173) (by decide) (by decide) ?_
      show own_S p e below T121 m 177 #[.val (.int p0), .val (.int p1), .val (.int p2), .val (.long q3), .second, .val (.double (FP.ddiv (FP.i2d ((p0 &&& (255 : Int32)) + (1 : Int32))) (4643211215818981376 : UInt64))), .second, .val (.int 3), .val (.double 9218868437227405312), .second, .val (.double (FP.l2d (q3 &&& (9223372036854775807 : Int64)))), .second, .val (.ref b117), .val (.int 1)] [(.int 1)] _
      exact retN X121 hx (t := .boolean) Bd.returns (by simp) (hb hby at_177) hr
    · show Qm0 Z p0 p1 p2 q3 h0 n0 _ T121.heap _
      rw [P121_0]
      exact ⟨rfl, N121⟩
  · skip
    obtain ⟨T122, h122, X122, e122, E122, A122, D122, -, st122⟩ := newO X0 hx hZ hown (own_w hw 3 rfl) (own_w hw 4 rfl) (own_w hw 5 rfl) e0 (g := (mkF m 130 #[.val (.int p0), .val (.int p1), .val (.int p2), .val (.long q3), .second, .val (.double (FP.ddiv (FP.i2d ((p0 &&& (255 : Int32)) + (1 : Int32))) (4643211215818981376 : UInt64))), .second, .val (.int 4), .val (.double 9218868437227405312), .second, .val (.double 9223372036854775808), .second, .unset, .unset] [])) rfl (hb hby at_130) (by decide) (by decide)
    obtain ⟨b122, g122⟩ : ∃ z, z = h0.size := ⟨_, rfl⟩
    rw [← g122] at A122 D122 st122
    have g_b122 : n0 ≤ b122 := Nat.le_trans Z0 (Nat.le_of_eq g122.symm)
    have ZZ123 : n0 ≤ h122.size := Nat.le_trans Z0 E122.1
    have F_servedShare_b122 : Fld Z h122 b122 "com/example/fireweed/fireweed/model/ServiceTarget" "servedShare" "D" (.double 0) := D122 (Or.inr (own_w hw 18 rfl)) (ty := .double) (by decide)
    have F_maxMeanWaitS_b122 : Fld Z h122 b122 "com/example/fireweed/fireweed/model/ServiceTarget" "maxMeanWaitS" "D" (.double 0) := D122 (Or.inr (own_w hw 20 rfl)) (ty := .double) (by decide)
    obtain ⟨_, _, ⟨T124, L124, k124, n124⟩, -, X124, ⟨Lc124, hQ124, l124, y124, z124⟩, st124⟩ := X122.specialBack hx (y := (⟨"com/example/fireweed/fireweed/model/ServiceTarget", "<init>", "(DD)V"⟩ : MethodName)) rfl hown (mvT hZ (own_w hw 6 rfl)) (mvT hZ (own_w hw 7 rfl)) (mvT hZ (own_w hw 8 rfl)) (by decide) (backOf (W := 1) (rmm1 l Z a0 hw [] b122 (FP.ddiv (FP.i2d ((p0 &&& (255 : Int32)) + (1 : Int32))) (4643211215818981376 : UInt64)) (9223372036854775808 : UInt64) (.double 0) (.double 0) h122 n0 ZZ123 F_servedShare_b122 F_maxMeanWaitS_b122 A122 g_b122 hs6 hs12 (by decide +kernel)) hZ (own_w hw 8 rfl) (own_w hw 5 rfl) (by decide) (by decide)) (g := (mkF m 138 #[.val (.int p0), .val (.int p1), .val (.int p2), .val (.long q3), .second, .val (.double (FP.ddiv (FP.i2d ((p0 &&& (255 : Int32)) + (1 : Int32))) (4643211215818981376 : UInt64))), .second, .val (.int 4), .val (.double 9218868437227405312), .second, .val (.double 9223372036854775808), .second, .unset, .unset] [(.double 9223372036854775808), (.double (FP.ddiv (FP.i2d ((p0 &&& (255 : Int32)) + (1 : Int32))) (4643211215818981376 : UInt64))), (.ref b122), (.ref b122)])) rfl (by rw [hml]; rfl) (Steps.refl _) (a := b122) (argsL := [(.double (FP.ddiv (FP.i2d ((p0 &&& (255 : Int32)) + (1 : Int32))) (4643211215818981376 : UInt64))), (.double 9223372036854775808)]) (rest := [(.ref b122)]) (lenOf pd1 rfl) rfl (by show 2 * 0 + _ ≤ _; exact Nat.le_of_eq rfl) (hb hby at_138) (fun _ _ => ⟨rfl, e122, (by decide : 1 + 0 ≤ _), (by decide : 2 + 0 ≤ _)⟩)
    dsimp only [Pt.U, Pt.locs, Pt.cells, Pt.slots] at X124 l124 y124 z124 st124 hQ124
    subst l124 y124 z124
    obtain ⟨rfl, Nq124, P124_0, P124_1, P124_2, P124_3⟩ := hQ124
    have N124 := Fr.app N0 Nq124
    have ZZ125 : n0 ≤ T124.heap.size := Nat.le_trans ZZ123 P124_0.1
    obtain ⟨cq126, kq126, q126a, q126b, q126c⟩ := isOf hZ rfl P124_1
    obtain ⟨_, _, ⟨T126, L126, k126, n126⟩, -, X126, ⟨Lc126, hQ126, l126, y126, z126⟩, st126⟩ := X124.virtualBack hx (y := (⟨"com/example/fireweed/fireweed/model/ServiceTarget", "capsWait", "()Z"⟩ : MethodName)) (z := (⟨"com/example/fireweed/fireweed/model/ServiceTarget", "capsWait", "()Z"⟩ : MethodName)) hown (mvT hZ (own_w hw 21 rfl)) (mvT hZ (own_w hw 22 rfl)) (notFace_of_selects (args := #[]) (mvT hZ (own_w hw 24 rfl))) (mvT hZ (own_w hw 24 rfl)) (mvT hZ (own_w hw 23 rfl)) (by decide) (backOf (W := 0) (rmm4 l Z a0 hw [] b122 (9223372036854775808 : UInt64) T124.heap n0 ZZ125 P124_3) hZ (own_w hw 25 rfl) (own_w hw 5 rfl) (by decide) (by decide)) q126a q126c (g := (mkF m 164 #[.val (.int p0), .val (.int p1), .val (.int p2), .val (.long q3), .second, .val (.double (FP.ddiv (FP.i2d ((p0 &&& (255 : Int32)) + (1 : Int32))) (4643211215818981376 : UInt64))), .second, .val (.int 4), .val (.double 9218868437227405312), .second, .val (.double 9223372036854775808), .second, .val (.ref b122), .val (.int 1)] [(.ref b122)])) rfl (by rw [hml]; rfl) (Steps.refl _) (argsL := []) (rest := []) (lenOf pd2 rfl) rfl (by show 2 * 0 + _ ≤ _; exact Nat.le_of_eq rfl) (hb hby at_164) (fun _ _ => ⟨rfl, rfl, (by decide : 1 + 0 ≤ _), (by decide : 2 + 0 ≤ _)⟩)
    dsimp only [Pt.U, Pt.locs, Pt.cells, Pt.slots] at X126 l126 y126 z126 st126 hQ126
    subst l126 y126 z126
    obtain ⟨rfl, Nq126, P126_0⟩ := hQ126
    have N126 := Fr.app N124 Nq126
    obtain ⟨fs, hr, hrun, hended, hW, hsame⟩ := X126.leave (v := some (.int 1)) (fun h => by rw [Bd.returns] at h; cases h)
    refine ⟨_, _, pre0 _ (pre101 _ ?_), hrun, hended, _, _, rfl, ?_, ⟨_, rfl⟩, hW, hsame.mono (by decide) (by decide)⟩
    · show own_S p e below s₁ m 18 #[.val (.int p0), .val (.int p1), .val (.int p2), .val (.long q3), .second, .val (.double (FP.ddiv (FP.i2d ((p0 &&& (255 : Int32)) + (1 : Int32))) (4643211215818981376 : UInt64))), .second, .unset, .unset, .unset, .unset, .unset, .unset, .unset] [(.int (p1 &&& (7 : Int32)))] _
      refine reI (hk : (p1 &&& (7 : Int32)) = (4 : Int32)) ?_
      show own_S p e below s₁ m 18 #[.val (.int p0), .val (.int p1), .val (.int p2), .val (.long q3), .second, .val (.double (FP.ddiv (FP.i2d ((p0 &&& (255 : Int32)) + (1 : Int32))) (4643211215818981376 : UInt64))), .second, .unset, .unset, .unset, .unset, .unset, .unset, .unset] [(.int 4)] _
      refine XS.istore X0.here hx rfl (hb hby at_18) rfl (l' := #[.val (.int p0), .val (.int p1), .val (.int p2), .val (.long q3), .second, .val (.double (FP.ddiv (FP.i2d ((p0 &&& (255 : Int32)) + (1 : Int32))) (4643211215818981376 : UInt64))), .second, .val (.int 4), .unset, .unset, .unset, .unset, .unset, .unset]) rfl ?_
      show own_S p e below s₁ m 20 #[.val (.int p0), .val (.int p1), .val (.int p2), .val (.long q3), .second, .val (.double (FP.ddiv (FP.i2d ((p0 &&& (255 : Int32)) + (1 : Int32))) (4643211215818981376 : UInt64))), .second, .val (.int 4), .unset, .unset, .unset, .unset, .unset, .unset] [] _
      refine X0.ldc2DoubleC hx hown (mvT hZ (own_w hw 1 rfl)) (g := (mkF m 20 #[.val (.int p0), .val (.int p1), .val (.int p2), .val (.long q3), .second, .val (.double (FP.ddiv (FP.i2d ((p0 &&& (255 : Int32)) + (1 : Int32))) (4643211215818981376 : UInt64))), .second, .val (.int 4), .unset, .unset, .unset, .unset, .unset, .unset] [])) rfl (hb hby at_20) _ ?_
      show own_S p e below s₁ m 23 #[.val (.int p0), .val (.int p1), .val (.int p2), .val (.long q3), .second, .val (.double (FP.ddiv (FP.i2d ((p0 &&& (255 : Int32)) + (1 : Int32))) (4643211215818981376 : UInt64))), .second, .val (.int 4), .unset, .unset, .unset, .unset, .unset, .unset] [(.double 9218868437227405312)] _
      refine XS.dstore X0.here hx rfl (hb hby at_23) rfl (l' := #[.val (.int p0), .val (.int p1), .val (.int p2), .val (.long q3), .second, .val (.double (FP.ddiv (FP.i2d ((p0 &&& (255 : Int32)) + (1 : Int32))) (4643211215818981376 : UInt64))), .second, .val (.int 4), .val (.double 9218868437227405312), .second, .unset, .unset, .unset, .unset]) rfl ?_
      show own_S p e below s₁ m 25 #[.val (.int p0), .val (.int p1), .val (.int p2), .val (.long q3), .second, .val (.double (FP.ddiv (FP.i2d ((p0 &&& (255 : Int32)) + (1 : Int32))) (4643211215818981376 : UInt64))), .second, .val (.int 4), .val (.double 9218868437227405312), .second, .unset, .unset, .unset, .unset] [] _
      refine XS.iload X0.here hx rfl (hb hby at_25) rfl ?_
      show own_S p e below s₁ m 27 #[.val (.int p0), .val (.int p1), .val (.int p2), .val (.long q3), .second, .val (.double (FP.ddiv (FP.i2d ((p0 &&& (255 : Int32)) + (1 : Int32))) (4643211215818981376 : UInt64))), .second, .val (.int 4), .val (.double 9218868437227405312), .second, .unset, .unset, .unset, .unset] [(.int 4)] _
      refine XS.ifNo X0.here hx rfl (hb hby at_27) rfl ((if0 _ _).trans (feq (by decide : ¬ ((4 : Int32) = (0 : Int32)))).1) ?_
      show own_S p e below s₁ m 30 #[.val (.int p0), .val (.int p1), .val (.int p2), .val (.long q3), .second, .val (.double (FP.ddiv (FP.i2d ((p0 &&& (255 : Int32)) + (1 : Int32))) (4643211215818981376 : UInt64))), .second, .val (.int 4), .val (.double 9218868437227405312), .second, .unset, .unset, .unset, .unset] [] _
      refine XS.iload X0.here hx rfl (hb hby at_30) rfl ?_
      show own_S p e below s₁ m 32 #[.val (.int p0), .val (.int p1), .val (.int p2), .val (.long q3), .second, .val (.double (FP.ddiv (FP.i2d ((p0 &&& (255 : Int32)) + (1 : Int32))) (4643211215818981376 : UInt64))), .second, .val (.int 4), .val (.double 9218868437227405312), .second, .unset, .unset, .unset, .unset] [(.int 4)] _
      refine XS.bipush X0.here hx rfl (hb hby at_32) ?_
      show own_S p e below s₁ m 34 #[.val (.int p0), .val (.int p1), .val (.int p2), .val (.long q3), .second, .val (.double (FP.ddiv (FP.i2d ((p0 &&& (255 : Int32)) + (1 : Int32))) (4643211215818981376 : UInt64))), .second, .val (.int 4), .val (.double 9218868437227405312), .second, .unset, .unset, .unset, .unset] [(.int 7), (.int 4)] _
      refine XS.icmpYes X0.here hx rfl (pc0 := 34) (pc' := 44) rfl (hb hby at_34) rfl (feq (by decide : ¬ ((4 : Int32) = (7 : Int32)))).2 (by decide) (by decide) ?_
      show own_S p e below s₁ m 44 #[.val (.int p0), .val (.int p1), .val (.int p2), .val (.long q3), .second, .val (.double (FP.ddiv (FP.i2d ((p0 &&& (255 : Int32)) + (1 : Int32))) (4643211215818981376 : UInt64))), .second, .val (.int 4), .val (.double 9218868437227405312), .second, .unset, .unset, .unset, .unset] [] _
      refine XS.iload X0.here hx rfl (hb hby at_44) rfl ?_
      show own_S p e below s₁ m 46 #[.val (.int p0), .val (.int p1), .val (.int p2), .val (.long q3), .second, .val (.double (FP.ddiv (FP.i2d ((p0 &&& (255 : Int32)) + (1 : Int32))) (4643211215818981376 : UInt64))), .second, .val (.int 4), .val (.double 9218868437227405312), .second, .unset, .unset, .unset, .unset] [(.int 4)] _
      refine XS.iconst X0.here hx rfl (hb hby at_46) ?_
      show own_S p e below s₁ m 47 #[.val (.int p0), .val (.int p1), .val (.int p2), .val (.long q3), .second, .val (.double (FP.ddiv (FP.i2d ((p0 &&& (255 : Int32)) + (1 : Int32))) (4643211215818981376 : UInt64))), .second, .val (.int 4), .val (.double 9218868437227405312), .second, .unset, .unset, .unset, .unset] [(.int 1), (.int 4)] _
      refine XS.icmpYes X0.here hx rfl (pc0 := 47) (pc' := 60) rfl (hb hby at_47) rfl (feq (by decide : ¬ ((4 : Int32) = (1 : Int32)))).2 (by decide) (by decide) ?_
      show own_S p e below s₁ m 60 #[.val (.int p0), .val (.int p1), .val (.int p2), .val (.long q3), .second, .val (.double (FP.ddiv (FP.i2d ((p0 &&& (255 : Int32)) + (1 : Int32))) (4643211215818981376 : UInt64))), .second, .val (.int 4), .val (.double 9218868437227405312), .second, .unset, .unset, .unset, .unset] [] _
      refine XS.iload X0.here hx rfl (hb hby at_60) rfl ?_
      show own_S p e below s₁ m 62 #[.val (.int p0), .val (.int p1), .val (.int p2), .val (.long q3), .second, .val (.double (FP.ddiv (FP.i2d ((p0 &&& (255 : Int32)) + (1 : Int32))) (4643211215818981376 : UInt64))), .second, .val (.int 4), .val (.double 9218868437227405312), .second, .unset, .unset, .unset, .unset] [(.int 4)] _
      refine XS.iconst X0.here hx rfl (hb hby at_62) ?_
      show own_S p e below s₁ m 63 #[.val (.int p0), .val (.int p1), .val (.int p2), .val (.long q3), .second, .val (.double (FP.ddiv (FP.i2d ((p0 &&& (255 : Int32)) + (1 : Int32))) (4643211215818981376 : UInt64))), .second, .val (.int 4), .val (.double 9218868437227405312), .second, .unset, .unset, .unset, .unset] [(.int 2), (.int 4)] _
      refine XS.icmpYes X0.here hx rfl (pc0 := 63) (pc' := 74) rfl (hb hby at_63) rfl (feq (by decide : ¬ ((4 : Int32) = (2 : Int32)))).2 (by decide) (by decide) ?_
      show own_S p e below s₁ m 74 #[.val (.int p0), .val (.int p1), .val (.int p2), .val (.long q3), .second, .val (.double (FP.ddiv (FP.i2d ((p0 &&& (255 : Int32)) + (1 : Int32))) (4643211215818981376 : UInt64))), .second, .val (.int 4), .val (.double 9218868437227405312), .second, .unset, .unset, .unset, .unset] [] _
      refine XS.iload X0.here hx rfl (hb hby at_74) rfl ?_
      show own_S p e below s₁ m 76 #[.val (.int p0), .val (.int p1), .val (.int p2), .val (.long q3), .second, .val (.double (FP.ddiv (FP.i2d ((p0 &&& (255 : Int32)) + (1 : Int32))) (4643211215818981376 : UInt64))), .second, .val (.int 4), .val (.double 9218868437227405312), .second, .unset, .unset, .unset, .unset] [(.int 4)] _
      refine XS.iconst X0.here hx rfl (hb hby at_76) ?_
      show own_S p e below s₁ m 77 #[.val (.int p0), .val (.int p1), .val (.int p2), .val (.long q3), .second, .val (.double (FP.ddiv (FP.i2d ((p0 &&& (255 : Int32)) + (1 : Int32))) (4643211215818981376 : UInt64))), .second, .val (.int 4), .val (.double 9218868437227405312), .second, .unset, .unset, .unset, .unset] [(.int 3), (.int 4)] _
      refine XS.icmpYes X0.here hx rfl (pc0 := 77) (pc' := 91) rfl (hb hby at_77) rfl (feq (by decide : ¬ ((4 : Int32) = (3 : Int32)))).2 (by decide) (by decide) ?_
      show own_S p e below s₁ m 91 #[.val (.int p0), .val (.int p1), .val (.int p2), .val (.long q3), .second, .val (.double (FP.ddiv (FP.i2d ((p0 &&& (255 : Int32)) + (1 : Int32))) (4643211215818981376 : UInt64))), .second, .val (.int 4), .val (.double 9218868437227405312), .second, .unset, .unset, .unset, .unset] [] _
      refine XS.iload X0.here hx rfl (hb hby at_91) rfl ?_
      show own_S p e below s₁ m 93 #[.val (.int p0), .val (.int p1), .val (.int p2), .val (.long q3), .second, .val (.double (FP.ddiv (FP.i2d ((p0 &&& (255 : Int32)) + (1 : Int32))) (4643211215818981376 : UInt64))), .second, .val (.int 4), .val (.double 9218868437227405312), .second, .unset, .unset, .unset, .unset] [(.int 4)] _
      refine XS.iconst X0.here hx rfl (hb hby at_93) ?_
      show own_S p e below s₁ m 94 #[.val (.int p0), .val (.int p1), .val (.int p2), .val (.long q3), .second, .val (.double (FP.ddiv (FP.i2d ((p0 &&& (255 : Int32)) + (1 : Int32))) (4643211215818981376 : UInt64))), .second, .val (.int 4), .val (.double 9218868437227405312), .second, .unset, .unset, .unset, .unset] [(.int 4), (.int 4)] _
      refine XS.icmpNo X0.here hx rfl (hb hby at_94) rfl (teq (by decide : (4 : Int32) = (4 : Int32))).2 ?_
      show own_S p e below s₁ m 97 #[.val (.int p0), .val (.int p1), .val (.int p2), .val (.long q3), .second, .val (.double (FP.ddiv (FP.i2d ((p0 &&& (255 : Int32)) + (1 : Int32))) (4643211215818981376 : UInt64))), .second, .val (.int 4), .val (.double 9218868437227405312), .second, .unset, .unset, .unset, .unset] [] _
      refine X0.ldc2DoubleC hx hown (mvT hZ (own_w hw 29 rfl)) (g := (mkF m 97 #[.val (.int p0), .val (.int p1), .val (.int p2), .val (.long q3), .second, .val (.double (FP.ddiv (FP.i2d ((p0 &&& (255 : Int32)) + (1 : Int32))) (4643211215818981376 : UInt64))), .second, .val (.int 4), .val (.double 9218868437227405312), .second, .unset, .unset, .unset, .unset] [])) rfl (hb hby at_97) _ ?_
      show own_S p e below s₁ m 100 #[.val (.int p0), .val (.int p1), .val (.int p2), .val (.long q3), .second, .val (.double (FP.ddiv (FP.i2d ((p0 &&& (255 : Int32)) + (1 : Int32))) (4643211215818981376 : UInt64))), .second, .val (.int 4), .val (.double 9218868437227405312), .second, .unset, .unset, .unset, .unset] [(.double 9223372036854775808)] _
      refine XS.dstore X0.here hx rfl (hb hby at_100) rfl (l' := #[.val (.int p0), .val (.int p1), .val (.int p2), .val (.long q3), .second, .val (.double (FP.ddiv (FP.i2d ((p0 &&& (255 : Int32)) + (1 : Int32))) (4643211215818981376 : UInt64))), .second, .val (.int 4), .val (.double 9218868437227405312), .second, .val (.double 9223372036854775808), .second, .unset, .unset]) rfl ?_
      show own_S p e below s₁ m 102 #[.val (.int p0), .val (.int p1), .val (.int p2), .val (.long q3), .second, .val (.double (FP.ddiv (FP.i2d ((p0 &&& (255 : Int32)) + (1 : Int32))) (4643211215818981376 : UInt64))), .second, .val (.int 4), .val (.double 9218868437227405312), .second, .val (.double 9223372036854775808), .second, .unset, .unset] [] _
      refine XS.goto X0.here hx rfl (pc0 := 102) (pc' := 130) rfl (hb hby at_102) (by decide) (by decide) ?_
      show own_S p e below s₁ m 130 #[.val (.int p0), .val (.int p1), .val (.int p2), .val (.long q3), .second, .val (.double (FP.ddiv (FP.i2d ((p0 &&& (255 : Int32)) + (1 : Int32))) (4643211215818981376 : UInt64))), .second, .val (.int 4), .val (.double 9218868437227405312), .second, .val (.double 9223372036854775808), .second, .unset, .unset] [] _
      refine st122 _ ?_
      show own_S p e below T122 m 133 #[.val (.int p0), .val (.int p1), .val (.int p2), .val (.long q3), .second, .val (.double (FP.ddiv (FP.i2d ((p0 &&& (255 : Int32)) + (1 : Int32))) (4643211215818981376 : UInt64))), .second, .val (.int 4), .val (.double 9218868437227405312), .second, .val (.double 9223372036854775808), .second, .unset, .unset] [(.ref b122)] _
      refine XS.dup X122.here hx rfl (hb hby at_133) rfl rfl ?_
      show own_S p e below T122 m 134 #[.val (.int p0), .val (.int p1), .val (.int p2), .val (.long q3), .second, .val (.double (FP.ddiv (FP.i2d ((p0 &&& (255 : Int32)) + (1 : Int32))) (4643211215818981376 : UInt64))), .second, .val (.int 4), .val (.double 9218868437227405312), .second, .val (.double 9223372036854775808), .second, .unset, .unset] [(.ref b122), (.ref b122)] _
      refine XS.dload X122.here hx rfl (hb hby at_134) rfl ?_
      show own_S p e below T122 m 136 #[.val (.int p0), .val (.int p1), .val (.int p2), .val (.long q3), .second, .val (.double (FP.ddiv (FP.i2d ((p0 &&& (255 : Int32)) + (1 : Int32))) (4643211215818981376 : UInt64))), .second, .val (.int 4), .val (.double 9218868437227405312), .second, .val (.double 9223372036854775808), .second, .unset, .unset] [(.double (FP.ddiv (FP.i2d ((p0 &&& (255 : Int32)) + (1 : Int32))) (4643211215818981376 : UInt64))), (.ref b122), (.ref b122)] _
      refine XS.dload X122.here hx rfl (hb hby at_136) rfl ?_
      show own_S p e below T122 m 138 #[.val (.int p0), .val (.int p1), .val (.int p2), .val (.long q3), .second, .val (.double (FP.ddiv (FP.i2d ((p0 &&& (255 : Int32)) + (1 : Int32))) (4643211215818981376 : UInt64))), .second, .val (.int 4), .val (.double 9218868437227405312), .second, .val (.double 9223372036854775808), .second, .unset, .unset] [(.double 9223372036854775808), (.double (FP.ddiv (FP.i2d ((p0 &&& (255 : Int32)) + (1 : Int32))) (4643211215818981376 : UInt64))), (.ref b122), (.ref b122)] _
      refine st124.trans ?_
      show own_S p e below T124 m 141 #[.val (.int p0), .val (.int p1), .val (.int p2), .val (.long q3), .second, .val (.double (FP.ddiv (FP.i2d ((p0 &&& (255 : Int32)) + (1 : Int32))) (4643211215818981376 : UInt64))), .second, .val (.int 4), .val (.double 9218868437227405312), .second, .val (.double 9223372036854775808), .second, .unset, .unset] [(.ref b122)] _
      refine XS.astore X124.here hx rfl (hb hby at_141) rfl rfl (l' := #[.val (.int p0), .val (.int p1), .val (.int p2), .val (.long q3), .second, .val (.double (FP.ddiv (FP.i2d ((p0 &&& (255 : Int32)) + (1 : Int32))) (4643211215818981376 : UInt64))), .second, .val (.int 4), .val (.double 9218868437227405312), .second, .val (.double 9223372036854775808), .second, .val (.ref b122), .unset]) rfl ?_
      show own_S p e below T124 m 143 #[.val (.int p0), .val (.int p1), .val (.int p2), .val (.long q3), .second, .val (.double (FP.ddiv (FP.i2d ((p0 &&& (255 : Int32)) + (1 : Int32))) (4643211215818981376 : UInt64))), .second, .val (.int 4), .val (.double 9218868437227405312), .second, .val (.double 9223372036854775808), .second, .val (.ref b122), .unset] [] _
      refine XS.iload X124.here hx rfl (hb hby at_143) rfl ?_
      show own_S p e below T124 m 145 #[.val (.int p0), .val (.int p1), .val (.int p2), .val (.long q3), .second, .val (.double (FP.ddiv (FP.i2d ((p0 &&& (255 : Int32)) + (1 : Int32))) (4643211215818981376 : UInt64))), .second, .val (.int 4), .val (.double 9218868437227405312), .second, .val (.double 9223372036854775808), .second, .val (.ref b122), .unset] [(.int 4)] _
      refine XS.ifNo X124.here hx rfl (hb hby at_145) rfl ((if0 _ _).trans (feq (by decide : ¬ ((4 : Int32) = (0 : Int32)))).1) ?_
      show own_S p e below T124 m 148 #[.val (.int p0), .val (.int p1), .val (.int p2), .val (.long q3), .second, .val (.double (FP.ddiv (FP.i2d ((p0 &&& (255 : Int32)) + (1 : Int32))) (4643211215818981376 : UInt64))), .second, .val (.int 4), .val (.double 9218868437227405312), .second, .val (.double 9223372036854775808), .second, .val (.ref b122), .unset] [] _
      refine XS.iload X124.here hx rfl (hb hby at_148) rfl ?_
      show own_S p e below T124 m 150 #[.val (.int p0), .val (.int p1), .val (.int p2), .val (.long q3), .second, .val (.double (FP.ddiv (FP.i2d ((p0 &&& (255 : Int32)) + (1 : Int32))) (4643211215818981376 : UInt64))), .second, .val (.int 4), .val (.double 9218868437227405312), .second, .val (.double 9223372036854775808), .second, .val (.ref b122), .unset] [(.int 4)] _
      refine XS.bipush X124.here hx rfl (hb hby at_150) ?_
      show own_S p e below T124 m 152 #[.val (.int p0), .val (.int p1), .val (.int p2), .val (.long q3), .second, .val (.double (FP.ddiv (FP.i2d ((p0 &&& (255 : Int32)) + (1 : Int32))) (4643211215818981376 : UInt64))), .second, .val (.int 4), .val (.double 9218868437227405312), .second, .val (.double 9223372036854775808), .second, .val (.ref b122), .unset] [(.int 7), (.int 4)] _
      refine XS.icmpNo X124.here hx rfl (hb hby at_152) rfl (feq (by decide : ¬ ((4 : Int32) = (7 : Int32)))).1 ?_
      show own_S p e below T124 m 155 #[.val (.int p0), .val (.int p1), .val (.int p2), .val (.long q3), .second, .val (.double (FP.ddiv (FP.i2d ((p0 &&& (255 : Int32)) + (1 : Int32))) (4643211215818981376 : UInt64))), .second, .val (.int 4), .val (.double 9218868437227405312), .second, .val (.double 9223372036854775808), .second, .val (.ref b122), .unset] [] _
      refine XS.iconst X124.here hx rfl (hb hby at_155) ?_
      show own_S p e below T124 m 156 #[.val (.int p0), .val (.int p1), .val (.int p2), .val (.long q3), .second, .val (.double (FP.ddiv (FP.i2d ((p0 &&& (255 : Int32)) + (1 : Int32))) (4643211215818981376 : UInt64))), .second, .val (.int 4), .val (.double 9218868437227405312), .second, .val (.double 9223372036854775808), .second, .val (.ref b122), .unset] [(.int 1)] _
      refine XS.goto X124.here hx rfl (pc0 := 156) (pc' := 160) rfl (hb hby at_156) (by decide) (by decide) ?_
      show own_S p e below T124 m 160 #[.val (.int p0), .val (.int p1), .val (.int p2), .val (.long q3), .second, .val (.double (FP.ddiv (FP.i2d ((p0 &&& (255 : Int32)) + (1 : Int32))) (4643211215818981376 : UInt64))), .second, .val (.int 4), .val (.double 9218868437227405312), .second, .val (.double 9223372036854775808), .second, .val (.ref b122), .unset] [(.int 1)] _
      refine XS.istore X124.here hx rfl (hb hby at_160) rfl (l' := #[.val (.int p0), .val (.int p1), .val (.int p2), .val (.long q3), .second, .val (.double (FP.ddiv (FP.i2d ((p0 &&& (255 : Int32)) + (1 : Int32))) (4643211215818981376 : UInt64))), .second, .val (.int 4), .val (.double 9218868437227405312), .second, .val (.double 9223372036854775808), .second, .val (.ref b122), .val (.int 1)]) rfl ?_
      show own_S p e below T124 m 162 #[.val (.int p0), .val (.int p1), .val (.int p2), .val (.long q3), .second, .val (.double (FP.ddiv (FP.i2d ((p0 &&& (255 : Int32)) + (1 : Int32))) (4643211215818981376 : UInt64))), .second, .val (.int 4), .val (.double 9218868437227405312), .second, .val (.double 9223372036854775808), .second, .val (.ref b122), .val (.int 1)] [] _
      refine XS.aload X124.here hx rfl (hb hby at_162) rfl rfl ?_
      show own_S p e below T124 m 164 #[.val (.int p0), .val (.int p1), .val (.int p2), .val (.long q3), .second, .val (.double (FP.ddiv (FP.i2d ((p0 &&& (255 : Int32)) + (1 : Int32))) (4643211215818981376 : UInt64))), .second, .val (.int 4), .val (.double 9218868437227405312), .second, .val (.double 9223372036854775808), .second, .val (.ref b122), .val (.int 1)] [(.ref b122)] _
      refine st126.trans ?_
      show own_S p e below T126 m 167 #[.val (.int p0), .val (.int p1), .val (.int p2), .val (.long q3), .second, .val (.double (FP.ddiv (FP.i2d ((p0 &&& (255 : Int32)) + (1 : Int32))) (4643211215818981376 : UInt64))), .second, .val (.int 4), .val (.double 9218868437227405312), .second, .val (.double 9223372036854775808), .second, .val (.ref b122), .val (.int 1)] [(.int (own_rch (9223372036854775808 : UInt64)))] _
      refine reI (own_rfin (by unfold Fin64; decide) : (own_rch (9223372036854775808 : UInt64)) = (1 : Int32)) ?_
      show own_S p e below T126 m 167 #[.val (.int p0), .val (.int p1), .val (.int p2), .val (.long q3), .second, .val (.double (FP.ddiv (FP.i2d ((p0 &&& (255 : Int32)) + (1 : Int32))) (4643211215818981376 : UInt64))), .second, .val (.int 4), .val (.double 9218868437227405312), .second, .val (.double 9223372036854775808), .second, .val (.ref b122), .val (.int 1)] [(.int 1)] _
      refine XS.iload X126.here hx rfl (hb hby at_167) rfl ?_
      show own_S p e below T126 m 169 #[.val (.int p0), .val (.int p1), .val (.int p2), .val (.long q3), .second, .val (.double (FP.ddiv (FP.i2d ((p0 &&& (255 : Int32)) + (1 : Int32))) (4643211215818981376 : UInt64))), .second, .val (.int 4), .val (.double 9218868437227405312), .second, .val (.double 9223372036854775808), .second, .val (.ref b122), .val (.int 1)] [(.int 1), (.int 1)] _
      refine XS.icmpNo X126.here hx rfl (hb hby at_169) rfl (teq (by decide : (1 : Int32) = (1 : Int32))).2 ?_
      show own_S p e below T126 m 172 #[.val (.int p0), .val (.int p1), .val (.int p2), .val (.long q3), .second, .val (.double (FP.ddiv (FP.i2d ((p0 &&& (255 : Int32)) + (1 : Int32))) (4643211215818981376 : UInt64))), .second, .val (.int 4), .val (.double 9218868437227405312), .second, .val (.double 9223372036854775808), .second, .val (.ref b122), .val (.int 1)] [] _
      refine XS.iconst X126.here hx rfl (hb hby at_172) ?_
      show own_S p e below T126 m 173 #[.val (.int p0), .val (.int p1), .val (.int p2), .val (.long q3), .second, .val (.double (FP.ddiv (FP.i2d ((p0 &&& (255 : Int32)) + (1 : Int32))) (4643211215818981376 : UInt64))), .second, .val (.int 4), .val (.double 9218868437227405312), .second, .val (.double 9223372036854775808), .second, .val (.ref b122), .val (.int 1)] [(.int 1)] _
      refine XS.goto X126.here hx rfl (pc0 := 173) (pc' := 177) rfl (hb hby at_173) (by decide) (by decide) ?_
      show own_S p e below T126 m 177 #[.val (.int p0), .val (.int p1), .val (.int p2), .val (.long q3), .second, .val (.double (FP.ddiv (FP.i2d ((p0 &&& (255 : Int32)) + (1 : Int32))) (4643211215818981376 : UInt64))), .second, .val (.int 4), .val (.double 9218868437227405312), .second, .val (.double 9223372036854775808), .second, .val (.ref b122), .val (.int 1)] [(.int 1)] _
      exact retN X126 hx (t := .boolean) Bd.returns (by simp) (hb hby at_177) hr
    · show Qm0 Z p0 p1 p2 q3 h0 n0 _ T126.heap _
      rw [P126_0]
      exact ⟨rfl, N126⟩
  · skip
    obtain ⟨T127, h127, X127, e127, E127, A127, D127, -, st127⟩ := newO X0 hx hZ hown (own_w hw 3 rfl) (own_w hw 4 rfl) (own_w hw 5 rfl) e0 (g := (mkF m 130 #[.val (.int p0), .val (.int p1), .val (.int p2), .val (.long q3), .second, .val (.double (FP.ddiv (FP.i2d ((p0 &&& (255 : Int32)) + (1 : Int32))) (4643211215818981376 : UInt64))), .second, .val (.int 5), .val (.double 9218868437227405312), .second, .val (.double 1), .second, .unset, .unset] [])) rfl (hb hby at_130) (by decide) (by decide)
    obtain ⟨b127, g127⟩ : ∃ z, z = h0.size := ⟨_, rfl⟩
    rw [← g127] at A127 D127 st127
    have g_b127 : n0 ≤ b127 := Nat.le_trans Z0 (Nat.le_of_eq g127.symm)
    have ZZ128 : n0 ≤ h127.size := Nat.le_trans Z0 E127.1
    have F_servedShare_b127 : Fld Z h127 b127 "com/example/fireweed/fireweed/model/ServiceTarget" "servedShare" "D" (.double 0) := D127 (Or.inr (own_w hw 18 rfl)) (ty := .double) (by decide)
    have F_maxMeanWaitS_b127 : Fld Z h127 b127 "com/example/fireweed/fireweed/model/ServiceTarget" "maxMeanWaitS" "D" (.double 0) := D127 (Or.inr (own_w hw 20 rfl)) (ty := .double) (by decide)
    obtain ⟨_, _, ⟨T129, L129, k129, n129⟩, -, X129, ⟨Lc129, hQ129, l129, y129, z129⟩, st129⟩ := X127.specialBack hx (y := (⟨"com/example/fireweed/fireweed/model/ServiceTarget", "<init>", "(DD)V"⟩ : MethodName)) rfl hown (mvT hZ (own_w hw 6 rfl)) (mvT hZ (own_w hw 7 rfl)) (mvT hZ (own_w hw 8 rfl)) (by decide) (backOf (W := 1) (rmm1 l Z a0 hw [] b127 (FP.ddiv (FP.i2d ((p0 &&& (255 : Int32)) + (1 : Int32))) (4643211215818981376 : UInt64)) (1 : UInt64) (.double 0) (.double 0) h127 n0 ZZ128 F_servedShare_b127 F_maxMeanWaitS_b127 A127 g_b127 hs6 hs12 (by decide +kernel)) hZ (own_w hw 8 rfl) (own_w hw 5 rfl) (by decide) (by decide)) (g := (mkF m 138 #[.val (.int p0), .val (.int p1), .val (.int p2), .val (.long q3), .second, .val (.double (FP.ddiv (FP.i2d ((p0 &&& (255 : Int32)) + (1 : Int32))) (4643211215818981376 : UInt64))), .second, .val (.int 5), .val (.double 9218868437227405312), .second, .val (.double 1), .second, .unset, .unset] [(.double 1), (.double (FP.ddiv (FP.i2d ((p0 &&& (255 : Int32)) + (1 : Int32))) (4643211215818981376 : UInt64))), (.ref b127), (.ref b127)])) rfl (by rw [hml]; rfl) (Steps.refl _) (a := b127) (argsL := [(.double (FP.ddiv (FP.i2d ((p0 &&& (255 : Int32)) + (1 : Int32))) (4643211215818981376 : UInt64))), (.double 1)]) (rest := [(.ref b127)]) (lenOf pd1 rfl) rfl (by show 2 * 0 + _ ≤ _; exact Nat.le_of_eq rfl) (hb hby at_138) (fun _ _ => ⟨rfl, e127, (by decide : 1 + 0 ≤ _), (by decide : 2 + 0 ≤ _)⟩)
    dsimp only [Pt.U, Pt.locs, Pt.cells, Pt.slots] at X129 l129 y129 z129 st129 hQ129
    subst l129 y129 z129
    obtain ⟨rfl, Nq129, P129_0, P129_1, P129_2, P129_3⟩ := hQ129
    have N129 := Fr.app N0 Nq129
    have ZZ130 : n0 ≤ T129.heap.size := Nat.le_trans ZZ128 P129_0.1
    obtain ⟨cq131, kq131, q131a, q131b, q131c⟩ := isOf hZ rfl P129_1
    obtain ⟨_, _, ⟨T131, L131, k131, n131⟩, -, X131, ⟨Lc131, hQ131, l131, y131, z131⟩, st131⟩ := X129.virtualBack hx (y := (⟨"com/example/fireweed/fireweed/model/ServiceTarget", "capsWait", "()Z"⟩ : MethodName)) (z := (⟨"com/example/fireweed/fireweed/model/ServiceTarget", "capsWait", "()Z"⟩ : MethodName)) hown (mvT hZ (own_w hw 21 rfl)) (mvT hZ (own_w hw 22 rfl)) (notFace_of_selects (args := #[]) (mvT hZ (own_w hw 24 rfl))) (mvT hZ (own_w hw 24 rfl)) (mvT hZ (own_w hw 23 rfl)) (by decide) (backOf (W := 0) (rmm4 l Z a0 hw [] b127 (1 : UInt64) T129.heap n0 ZZ130 P129_3) hZ (own_w hw 25 rfl) (own_w hw 5 rfl) (by decide) (by decide)) q131a q131c (g := (mkF m 164 #[.val (.int p0), .val (.int p1), .val (.int p2), .val (.long q3), .second, .val (.double (FP.ddiv (FP.i2d ((p0 &&& (255 : Int32)) + (1 : Int32))) (4643211215818981376 : UInt64))), .second, .val (.int 5), .val (.double 9218868437227405312), .second, .val (.double 1), .second, .val (.ref b127), .val (.int 1)] [(.ref b127)])) rfl (by rw [hml]; rfl) (Steps.refl _) (argsL := []) (rest := []) (lenOf pd2 rfl) rfl (by show 2 * 0 + _ ≤ _; exact Nat.le_of_eq rfl) (hb hby at_164) (fun _ _ => ⟨rfl, rfl, (by decide : 1 + 0 ≤ _), (by decide : 2 + 0 ≤ _)⟩)
    dsimp only [Pt.U, Pt.locs, Pt.cells, Pt.slots] at X131 l131 y131 z131 st131 hQ131
    subst l131 y131 z131
    obtain ⟨rfl, Nq131, P131_0⟩ := hQ131
    have N131 := Fr.app N129 Nq131
    obtain ⟨fs, hr, hrun, hended, hW, hsame⟩ := X131.leave (v := some (.int 1)) (fun h => by rw [Bd.returns] at h; cases h)
    refine ⟨_, _, pre0 _ (pre101 _ ?_), hrun, hended, _, _, rfl, ?_, ⟨_, rfl⟩, hW, hsame.mono (by decide) (by decide)⟩
    · show own_S p e below s₁ m 18 #[.val (.int p0), .val (.int p1), .val (.int p2), .val (.long q3), .second, .val (.double (FP.ddiv (FP.i2d ((p0 &&& (255 : Int32)) + (1 : Int32))) (4643211215818981376 : UInt64))), .second, .unset, .unset, .unset, .unset, .unset, .unset, .unset] [(.int (p1 &&& (7 : Int32)))] _
      refine reI (hk : (p1 &&& (7 : Int32)) = (5 : Int32)) ?_
      show own_S p e below s₁ m 18 #[.val (.int p0), .val (.int p1), .val (.int p2), .val (.long q3), .second, .val (.double (FP.ddiv (FP.i2d ((p0 &&& (255 : Int32)) + (1 : Int32))) (4643211215818981376 : UInt64))), .second, .unset, .unset, .unset, .unset, .unset, .unset, .unset] [(.int 5)] _
      refine XS.istore X0.here hx rfl (hb hby at_18) rfl (l' := #[.val (.int p0), .val (.int p1), .val (.int p2), .val (.long q3), .second, .val (.double (FP.ddiv (FP.i2d ((p0 &&& (255 : Int32)) + (1 : Int32))) (4643211215818981376 : UInt64))), .second, .val (.int 5), .unset, .unset, .unset, .unset, .unset, .unset]) rfl ?_
      show own_S p e below s₁ m 20 #[.val (.int p0), .val (.int p1), .val (.int p2), .val (.long q3), .second, .val (.double (FP.ddiv (FP.i2d ((p0 &&& (255 : Int32)) + (1 : Int32))) (4643211215818981376 : UInt64))), .second, .val (.int 5), .unset, .unset, .unset, .unset, .unset, .unset] [] _
      refine X0.ldc2DoubleC hx hown (mvT hZ (own_w hw 1 rfl)) (g := (mkF m 20 #[.val (.int p0), .val (.int p1), .val (.int p2), .val (.long q3), .second, .val (.double (FP.ddiv (FP.i2d ((p0 &&& (255 : Int32)) + (1 : Int32))) (4643211215818981376 : UInt64))), .second, .val (.int 5), .unset, .unset, .unset, .unset, .unset, .unset] [])) rfl (hb hby at_20) _ ?_
      show own_S p e below s₁ m 23 #[.val (.int p0), .val (.int p1), .val (.int p2), .val (.long q3), .second, .val (.double (FP.ddiv (FP.i2d ((p0 &&& (255 : Int32)) + (1 : Int32))) (4643211215818981376 : UInt64))), .second, .val (.int 5), .unset, .unset, .unset, .unset, .unset, .unset] [(.double 9218868437227405312)] _
      refine XS.dstore X0.here hx rfl (hb hby at_23) rfl (l' := #[.val (.int p0), .val (.int p1), .val (.int p2), .val (.long q3), .second, .val (.double (FP.ddiv (FP.i2d ((p0 &&& (255 : Int32)) + (1 : Int32))) (4643211215818981376 : UInt64))), .second, .val (.int 5), .val (.double 9218868437227405312), .second, .unset, .unset, .unset, .unset]) rfl ?_
      show own_S p e below s₁ m 25 #[.val (.int p0), .val (.int p1), .val (.int p2), .val (.long q3), .second, .val (.double (FP.ddiv (FP.i2d ((p0 &&& (255 : Int32)) + (1 : Int32))) (4643211215818981376 : UInt64))), .second, .val (.int 5), .val (.double 9218868437227405312), .second, .unset, .unset, .unset, .unset] [] _
      refine XS.iload X0.here hx rfl (hb hby at_25) rfl ?_
      show own_S p e below s₁ m 27 #[.val (.int p0), .val (.int p1), .val (.int p2), .val (.long q3), .second, .val (.double (FP.ddiv (FP.i2d ((p0 &&& (255 : Int32)) + (1 : Int32))) (4643211215818981376 : UInt64))), .second, .val (.int 5), .val (.double 9218868437227405312), .second, .unset, .unset, .unset, .unset] [(.int 5)] _
      refine XS.ifNo X0.here hx rfl (hb hby at_27) rfl ((if0 _ _).trans (feq (by decide : ¬ ((5 : Int32) = (0 : Int32)))).1) ?_
      show own_S p e below s₁ m 30 #[.val (.int p0), .val (.int p1), .val (.int p2), .val (.long q3), .second, .val (.double (FP.ddiv (FP.i2d ((p0 &&& (255 : Int32)) + (1 : Int32))) (4643211215818981376 : UInt64))), .second, .val (.int 5), .val (.double 9218868437227405312), .second, .unset, .unset, .unset, .unset] [] _
      refine XS.iload X0.here hx rfl (hb hby at_30) rfl ?_
      show own_S p e below s₁ m 32 #[.val (.int p0), .val (.int p1), .val (.int p2), .val (.long q3), .second, .val (.double (FP.ddiv (FP.i2d ((p0 &&& (255 : Int32)) + (1 : Int32))) (4643211215818981376 : UInt64))), .second, .val (.int 5), .val (.double 9218868437227405312), .second, .unset, .unset, .unset, .unset] [(.int 5)] _
      refine XS.bipush X0.here hx rfl (hb hby at_32) ?_
      show own_S p e below s₁ m 34 #[.val (.int p0), .val (.int p1), .val (.int p2), .val (.long q3), .second, .val (.double (FP.ddiv (FP.i2d ((p0 &&& (255 : Int32)) + (1 : Int32))) (4643211215818981376 : UInt64))), .second, .val (.int 5), .val (.double 9218868437227405312), .second, .unset, .unset, .unset, .unset] [(.int 7), (.int 5)] _
      refine XS.icmpYes X0.here hx rfl (pc0 := 34) (pc' := 44) rfl (hb hby at_34) rfl (feq (by decide : ¬ ((5 : Int32) = (7 : Int32)))).2 (by decide) (by decide) ?_
      show own_S p e below s₁ m 44 #[.val (.int p0), .val (.int p1), .val (.int p2), .val (.long q3), .second, .val (.double (FP.ddiv (FP.i2d ((p0 &&& (255 : Int32)) + (1 : Int32))) (4643211215818981376 : UInt64))), .second, .val (.int 5), .val (.double 9218868437227405312), .second, .unset, .unset, .unset, .unset] [] _
      refine XS.iload X0.here hx rfl (hb hby at_44) rfl ?_
      show own_S p e below s₁ m 46 #[.val (.int p0), .val (.int p1), .val (.int p2), .val (.long q3), .second, .val (.double (FP.ddiv (FP.i2d ((p0 &&& (255 : Int32)) + (1 : Int32))) (4643211215818981376 : UInt64))), .second, .val (.int 5), .val (.double 9218868437227405312), .second, .unset, .unset, .unset, .unset] [(.int 5)] _
      refine XS.iconst X0.here hx rfl (hb hby at_46) ?_
      show own_S p e below s₁ m 47 #[.val (.int p0), .val (.int p1), .val (.int p2), .val (.long q3), .second, .val (.double (FP.ddiv (FP.i2d ((p0 &&& (255 : Int32)) + (1 : Int32))) (4643211215818981376 : UInt64))), .second, .val (.int 5), .val (.double 9218868437227405312), .second, .unset, .unset, .unset, .unset] [(.int 1), (.int 5)] _
      refine XS.icmpYes X0.here hx rfl (pc0 := 47) (pc' := 60) rfl (hb hby at_47) rfl (feq (by decide : ¬ ((5 : Int32) = (1 : Int32)))).2 (by decide) (by decide) ?_
      show own_S p e below s₁ m 60 #[.val (.int p0), .val (.int p1), .val (.int p2), .val (.long q3), .second, .val (.double (FP.ddiv (FP.i2d ((p0 &&& (255 : Int32)) + (1 : Int32))) (4643211215818981376 : UInt64))), .second, .val (.int 5), .val (.double 9218868437227405312), .second, .unset, .unset, .unset, .unset] [] _
      refine XS.iload X0.here hx rfl (hb hby at_60) rfl ?_
      show own_S p e below s₁ m 62 #[.val (.int p0), .val (.int p1), .val (.int p2), .val (.long q3), .second, .val (.double (FP.ddiv (FP.i2d ((p0 &&& (255 : Int32)) + (1 : Int32))) (4643211215818981376 : UInt64))), .second, .val (.int 5), .val (.double 9218868437227405312), .second, .unset, .unset, .unset, .unset] [(.int 5)] _
      refine XS.iconst X0.here hx rfl (hb hby at_62) ?_
      show own_S p e below s₁ m 63 #[.val (.int p0), .val (.int p1), .val (.int p2), .val (.long q3), .second, .val (.double (FP.ddiv (FP.i2d ((p0 &&& (255 : Int32)) + (1 : Int32))) (4643211215818981376 : UInt64))), .second, .val (.int 5), .val (.double 9218868437227405312), .second, .unset, .unset, .unset, .unset] [(.int 2), (.int 5)] _
      refine XS.icmpYes X0.here hx rfl (pc0 := 63) (pc' := 74) rfl (hb hby at_63) rfl (feq (by decide : ¬ ((5 : Int32) = (2 : Int32)))).2 (by decide) (by decide) ?_
      show own_S p e below s₁ m 74 #[.val (.int p0), .val (.int p1), .val (.int p2), .val (.long q3), .second, .val (.double (FP.ddiv (FP.i2d ((p0 &&& (255 : Int32)) + (1 : Int32))) (4643211215818981376 : UInt64))), .second, .val (.int 5), .val (.double 9218868437227405312), .second, .unset, .unset, .unset, .unset] [] _
      refine XS.iload X0.here hx rfl (hb hby at_74) rfl ?_
      show own_S p e below s₁ m 76 #[.val (.int p0), .val (.int p1), .val (.int p2), .val (.long q3), .second, .val (.double (FP.ddiv (FP.i2d ((p0 &&& (255 : Int32)) + (1 : Int32))) (4643211215818981376 : UInt64))), .second, .val (.int 5), .val (.double 9218868437227405312), .second, .unset, .unset, .unset, .unset] [(.int 5)] _
      refine XS.iconst X0.here hx rfl (hb hby at_76) ?_
      show own_S p e below s₁ m 77 #[.val (.int p0), .val (.int p1), .val (.int p2), .val (.long q3), .second, .val (.double (FP.ddiv (FP.i2d ((p0 &&& (255 : Int32)) + (1 : Int32))) (4643211215818981376 : UInt64))), .second, .val (.int 5), .val (.double 9218868437227405312), .second, .unset, .unset, .unset, .unset] [(.int 3), (.int 5)] _
      refine XS.icmpYes X0.here hx rfl (pc0 := 77) (pc' := 91) rfl (hb hby at_77) rfl (feq (by decide : ¬ ((5 : Int32) = (3 : Int32)))).2 (by decide) (by decide) ?_
      show own_S p e below s₁ m 91 #[.val (.int p0), .val (.int p1), .val (.int p2), .val (.long q3), .second, .val (.double (FP.ddiv (FP.i2d ((p0 &&& (255 : Int32)) + (1 : Int32))) (4643211215818981376 : UInt64))), .second, .val (.int 5), .val (.double 9218868437227405312), .second, .unset, .unset, .unset, .unset] [] _
      refine XS.iload X0.here hx rfl (hb hby at_91) rfl ?_
      show own_S p e below s₁ m 93 #[.val (.int p0), .val (.int p1), .val (.int p2), .val (.long q3), .second, .val (.double (FP.ddiv (FP.i2d ((p0 &&& (255 : Int32)) + (1 : Int32))) (4643211215818981376 : UInt64))), .second, .val (.int 5), .val (.double 9218868437227405312), .second, .unset, .unset, .unset, .unset] [(.int 5)] _
      refine XS.iconst X0.here hx rfl (hb hby at_93) ?_
      show own_S p e below s₁ m 94 #[.val (.int p0), .val (.int p1), .val (.int p2), .val (.long q3), .second, .val (.double (FP.ddiv (FP.i2d ((p0 &&& (255 : Int32)) + (1 : Int32))) (4643211215818981376 : UInt64))), .second, .val (.int 5), .val (.double 9218868437227405312), .second, .unset, .unset, .unset, .unset] [(.int 4), (.int 5)] _
      refine XS.icmpYes X0.here hx rfl (pc0 := 94) (pc' := 105) rfl (hb hby at_94) rfl (feq (by decide : ¬ ((5 : Int32) = (4 : Int32)))).2 (by decide) (by decide) ?_
      show own_S p e below s₁ m 105 #[.val (.int p0), .val (.int p1), .val (.int p2), .val (.long q3), .second, .val (.double (FP.ddiv (FP.i2d ((p0 &&& (255 : Int32)) + (1 : Int32))) (4643211215818981376 : UInt64))), .second, .val (.int 5), .val (.double 9218868437227405312), .second, .unset, .unset, .unset, .unset] [] _
      refine XS.iload X0.here hx rfl (hb hby at_105) rfl ?_
      show own_S p e below s₁ m 107 #[.val (.int p0), .val (.int p1), .val (.int p2), .val (.long q3), .second, .val (.double (FP.ddiv (FP.i2d ((p0 &&& (255 : Int32)) + (1 : Int32))) (4643211215818981376 : UInt64))), .second, .val (.int 5), .val (.double 9218868437227405312), .second, .unset, .unset, .unset, .unset] [(.int 5)] _
      refine XS.iconst X0.here hx rfl (hb hby at_107) ?_
      show own_S p e below s₁ m 108 #[.val (.int p0), .val (.int p1), .val (.int p2), .val (.long q3), .second, .val (.double (FP.ddiv (FP.i2d ((p0 &&& (255 : Int32)) + (1 : Int32))) (4643211215818981376 : UInt64))), .second, .val (.int 5), .val (.double 9218868437227405312), .second, .unset, .unset, .unset, .unset] [(.int 5), (.int 5)] _
      refine XS.icmpNo X0.here hx rfl (hb hby at_108) rfl (teq (by decide : (5 : Int32) = (5 : Int32))).2 ?_
      show own_S p e below s₁ m 111 #[.val (.int p0), .val (.int p1), .val (.int p2), .val (.long q3), .second, .val (.double (FP.ddiv (FP.i2d ((p0 &&& (255 : Int32)) + (1 : Int32))) (4643211215818981376 : UInt64))), .second, .val (.int 5), .val (.double 9218868437227405312), .second, .unset, .unset, .unset, .unset] [] _
      refine X0.ldc2DoubleC hx hown (mvT hZ (own_w hw 28 rfl)) (g := (mkF m 111 #[.val (.int p0), .val (.int p1), .val (.int p2), .val (.long q3), .second, .val (.double (FP.ddiv (FP.i2d ((p0 &&& (255 : Int32)) + (1 : Int32))) (4643211215818981376 : UInt64))), .second, .val (.int 5), .val (.double 9218868437227405312), .second, .unset, .unset, .unset, .unset] [])) rfl (hb hby at_111) _ ?_
      show own_S p e below s₁ m 114 #[.val (.int p0), .val (.int p1), .val (.int p2), .val (.long q3), .second, .val (.double (FP.ddiv (FP.i2d ((p0 &&& (255 : Int32)) + (1 : Int32))) (4643211215818981376 : UInt64))), .second, .val (.int 5), .val (.double 9218868437227405312), .second, .unset, .unset, .unset, .unset] [(.double 1)] _
      refine XS.dstore X0.here hx rfl (hb hby at_114) rfl (l' := #[.val (.int p0), .val (.int p1), .val (.int p2), .val (.long q3), .second, .val (.double (FP.ddiv (FP.i2d ((p0 &&& (255 : Int32)) + (1 : Int32))) (4643211215818981376 : UInt64))), .second, .val (.int 5), .val (.double 9218868437227405312), .second, .val (.double 1), .second, .unset, .unset]) rfl ?_
      show own_S p e below s₁ m 116 #[.val (.int p0), .val (.int p1), .val (.int p2), .val (.long q3), .second, .val (.double (FP.ddiv (FP.i2d ((p0 &&& (255 : Int32)) + (1 : Int32))) (4643211215818981376 : UInt64))), .second, .val (.int 5), .val (.double 9218868437227405312), .second, .val (.double 1), .second, .unset, .unset] [] _
      refine XS.goto X0.here hx rfl (pc0 := 116) (pc' := 130) rfl (hb hby at_116) (by decide) (by decide) ?_
      show own_S p e below s₁ m 130 #[.val (.int p0), .val (.int p1), .val (.int p2), .val (.long q3), .second, .val (.double (FP.ddiv (FP.i2d ((p0 &&& (255 : Int32)) + (1 : Int32))) (4643211215818981376 : UInt64))), .second, .val (.int 5), .val (.double 9218868437227405312), .second, .val (.double 1), .second, .unset, .unset] [] _
      refine st127 _ ?_
      show own_S p e below T127 m 133 #[.val (.int p0), .val (.int p1), .val (.int p2), .val (.long q3), .second, .val (.double (FP.ddiv (FP.i2d ((p0 &&& (255 : Int32)) + (1 : Int32))) (4643211215818981376 : UInt64))), .second, .val (.int 5), .val (.double 9218868437227405312), .second, .val (.double 1), .second, .unset, .unset] [(.ref b127)] _
      refine XS.dup X127.here hx rfl (hb hby at_133) rfl rfl ?_
      show own_S p e below T127 m 134 #[.val (.int p0), .val (.int p1), .val (.int p2), .val (.long q3), .second, .val (.double (FP.ddiv (FP.i2d ((p0 &&& (255 : Int32)) + (1 : Int32))) (4643211215818981376 : UInt64))), .second, .val (.int 5), .val (.double 9218868437227405312), .second, .val (.double 1), .second, .unset, .unset] [(.ref b127), (.ref b127)] _
      refine XS.dload X127.here hx rfl (hb hby at_134) rfl ?_
      show own_S p e below T127 m 136 #[.val (.int p0), .val (.int p1), .val (.int p2), .val (.long q3), .second, .val (.double (FP.ddiv (FP.i2d ((p0 &&& (255 : Int32)) + (1 : Int32))) (4643211215818981376 : UInt64))), .second, .val (.int 5), .val (.double 9218868437227405312), .second, .val (.double 1), .second, .unset, .unset] [(.double (FP.ddiv (FP.i2d ((p0 &&& (255 : Int32)) + (1 : Int32))) (4643211215818981376 : UInt64))), (.ref b127), (.ref b127)] _
      refine XS.dload X127.here hx rfl (hb hby at_136) rfl ?_
      show own_S p e below T127 m 138 #[.val (.int p0), .val (.int p1), .val (.int p2), .val (.long q3), .second, .val (.double (FP.ddiv (FP.i2d ((p0 &&& (255 : Int32)) + (1 : Int32))) (4643211215818981376 : UInt64))), .second, .val (.int 5), .val (.double 9218868437227405312), .second, .val (.double 1), .second, .unset, .unset] [(.double 1), (.double (FP.ddiv (FP.i2d ((p0 &&& (255 : Int32)) + (1 : Int32))) (4643211215818981376 : UInt64))), (.ref b127), (.ref b127)] _
      refine st129.trans ?_
      show own_S p e below T129 m 141 #[.val (.int p0), .val (.int p1), .val (.int p2), .val (.long q3), .second, .val (.double (FP.ddiv (FP.i2d ((p0 &&& (255 : Int32)) + (1 : Int32))) (4643211215818981376 : UInt64))), .second, .val (.int 5), .val (.double 9218868437227405312), .second, .val (.double 1), .second, .unset, .unset] [(.ref b127)] _
      refine XS.astore X129.here hx rfl (hb hby at_141) rfl rfl (l' := #[.val (.int p0), .val (.int p1), .val (.int p2), .val (.long q3), .second, .val (.double (FP.ddiv (FP.i2d ((p0 &&& (255 : Int32)) + (1 : Int32))) (4643211215818981376 : UInt64))), .second, .val (.int 5), .val (.double 9218868437227405312), .second, .val (.double 1), .second, .val (.ref b127), .unset]) rfl ?_
      show own_S p e below T129 m 143 #[.val (.int p0), .val (.int p1), .val (.int p2), .val (.long q3), .second, .val (.double (FP.ddiv (FP.i2d ((p0 &&& (255 : Int32)) + (1 : Int32))) (4643211215818981376 : UInt64))), .second, .val (.int 5), .val (.double 9218868437227405312), .second, .val (.double 1), .second, .val (.ref b127), .unset] [] _
      refine XS.iload X129.here hx rfl (hb hby at_143) rfl ?_
      show own_S p e below T129 m 145 #[.val (.int p0), .val (.int p1), .val (.int p2), .val (.long q3), .second, .val (.double (FP.ddiv (FP.i2d ((p0 &&& (255 : Int32)) + (1 : Int32))) (4643211215818981376 : UInt64))), .second, .val (.int 5), .val (.double 9218868437227405312), .second, .val (.double 1), .second, .val (.ref b127), .unset] [(.int 5)] _
      refine XS.ifNo X129.here hx rfl (hb hby at_145) rfl ((if0 _ _).trans (feq (by decide : ¬ ((5 : Int32) = (0 : Int32)))).1) ?_
      show own_S p e below T129 m 148 #[.val (.int p0), .val (.int p1), .val (.int p2), .val (.long q3), .second, .val (.double (FP.ddiv (FP.i2d ((p0 &&& (255 : Int32)) + (1 : Int32))) (4643211215818981376 : UInt64))), .second, .val (.int 5), .val (.double 9218868437227405312), .second, .val (.double 1), .second, .val (.ref b127), .unset] [] _
      refine XS.iload X129.here hx rfl (hb hby at_148) rfl ?_
      show own_S p e below T129 m 150 #[.val (.int p0), .val (.int p1), .val (.int p2), .val (.long q3), .second, .val (.double (FP.ddiv (FP.i2d ((p0 &&& (255 : Int32)) + (1 : Int32))) (4643211215818981376 : UInt64))), .second, .val (.int 5), .val (.double 9218868437227405312), .second, .val (.double 1), .second, .val (.ref b127), .unset] [(.int 5)] _
      refine XS.bipush X129.here hx rfl (hb hby at_150) ?_
      show own_S p e below T129 m 152 #[.val (.int p0), .val (.int p1), .val (.int p2), .val (.long q3), .second, .val (.double (FP.ddiv (FP.i2d ((p0 &&& (255 : Int32)) + (1 : Int32))) (4643211215818981376 : UInt64))), .second, .val (.int 5), .val (.double 9218868437227405312), .second, .val (.double 1), .second, .val (.ref b127), .unset] [(.int 7), (.int 5)] _
      refine XS.icmpNo X129.here hx rfl (hb hby at_152) rfl (feq (by decide : ¬ ((5 : Int32) = (7 : Int32)))).1 ?_
      show own_S p e below T129 m 155 #[.val (.int p0), .val (.int p1), .val (.int p2), .val (.long q3), .second, .val (.double (FP.ddiv (FP.i2d ((p0 &&& (255 : Int32)) + (1 : Int32))) (4643211215818981376 : UInt64))), .second, .val (.int 5), .val (.double 9218868437227405312), .second, .val (.double 1), .second, .val (.ref b127), .unset] [] _
      refine XS.iconst X129.here hx rfl (hb hby at_155) ?_
      show own_S p e below T129 m 156 #[.val (.int p0), .val (.int p1), .val (.int p2), .val (.long q3), .second, .val (.double (FP.ddiv (FP.i2d ((p0 &&& (255 : Int32)) + (1 : Int32))) (4643211215818981376 : UInt64))), .second, .val (.int 5), .val (.double 9218868437227405312), .second, .val (.double 1), .second, .val (.ref b127), .unset] [(.int 1)] _
      refine XS.goto X129.here hx rfl (pc0 := 156) (pc' := 160) rfl (hb hby at_156) (by decide) (by decide) ?_
      show own_S p e below T129 m 160 #[.val (.int p0), .val (.int p1), .val (.int p2), .val (.long q3), .second, .val (.double (FP.ddiv (FP.i2d ((p0 &&& (255 : Int32)) + (1 : Int32))) (4643211215818981376 : UInt64))), .second, .val (.int 5), .val (.double 9218868437227405312), .second, .val (.double 1), .second, .val (.ref b127), .unset] [(.int 1)] _
      refine XS.istore X129.here hx rfl (hb hby at_160) rfl (l' := #[.val (.int p0), .val (.int p1), .val (.int p2), .val (.long q3), .second, .val (.double (FP.ddiv (FP.i2d ((p0 &&& (255 : Int32)) + (1 : Int32))) (4643211215818981376 : UInt64))), .second, .val (.int 5), .val (.double 9218868437227405312), .second, .val (.double 1), .second, .val (.ref b127), .val (.int 1)]) rfl ?_
      show own_S p e below T129 m 162 #[.val (.int p0), .val (.int p1), .val (.int p2), .val (.long q3), .second, .val (.double (FP.ddiv (FP.i2d ((p0 &&& (255 : Int32)) + (1 : Int32))) (4643211215818981376 : UInt64))), .second, .val (.int 5), .val (.double 9218868437227405312), .second, .val (.double 1), .second, .val (.ref b127), .val (.int 1)] [] _
      refine XS.aload X129.here hx rfl (hb hby at_162) rfl rfl ?_
      show own_S p e below T129 m 164 #[.val (.int p0), .val (.int p1), .val (.int p2), .val (.long q3), .second, .val (.double (FP.ddiv (FP.i2d ((p0 &&& (255 : Int32)) + (1 : Int32))) (4643211215818981376 : UInt64))), .second, .val (.int 5), .val (.double 9218868437227405312), .second, .val (.double 1), .second, .val (.ref b127), .val (.int 1)] [(.ref b127)] _
      refine st131.trans ?_
      show own_S p e below T131 m 167 #[.val (.int p0), .val (.int p1), .val (.int p2), .val (.long q3), .second, .val (.double (FP.ddiv (FP.i2d ((p0 &&& (255 : Int32)) + (1 : Int32))) (4643211215818981376 : UInt64))), .second, .val (.int 5), .val (.double 9218868437227405312), .second, .val (.double 1), .second, .val (.ref b127), .val (.int 1)] [(.int (own_rch (1 : UInt64)))] _
      refine reI (own_rfin (by unfold Fin64; decide) : (own_rch (1 : UInt64)) = (1 : Int32)) ?_
      show own_S p e below T131 m 167 #[.val (.int p0), .val (.int p1), .val (.int p2), .val (.long q3), .second, .val (.double (FP.ddiv (FP.i2d ((p0 &&& (255 : Int32)) + (1 : Int32))) (4643211215818981376 : UInt64))), .second, .val (.int 5), .val (.double 9218868437227405312), .second, .val (.double 1), .second, .val (.ref b127), .val (.int 1)] [(.int 1)] _
      refine XS.iload X131.here hx rfl (hb hby at_167) rfl ?_
      show own_S p e below T131 m 169 #[.val (.int p0), .val (.int p1), .val (.int p2), .val (.long q3), .second, .val (.double (FP.ddiv (FP.i2d ((p0 &&& (255 : Int32)) + (1 : Int32))) (4643211215818981376 : UInt64))), .second, .val (.int 5), .val (.double 9218868437227405312), .second, .val (.double 1), .second, .val (.ref b127), .val (.int 1)] [(.int 1), (.int 1)] _
      refine XS.icmpNo X131.here hx rfl (hb hby at_169) rfl (teq (by decide : (1 : Int32) = (1 : Int32))).2 ?_
      show own_S p e below T131 m 172 #[.val (.int p0), .val (.int p1), .val (.int p2), .val (.long q3), .second, .val (.double (FP.ddiv (FP.i2d ((p0 &&& (255 : Int32)) + (1 : Int32))) (4643211215818981376 : UInt64))), .second, .val (.int 5), .val (.double 9218868437227405312), .second, .val (.double 1), .second, .val (.ref b127), .val (.int 1)] [] _
      refine XS.iconst X131.here hx rfl (hb hby at_172) ?_
      show own_S p e below T131 m 173 #[.val (.int p0), .val (.int p1), .val (.int p2), .val (.long q3), .second, .val (.double (FP.ddiv (FP.i2d ((p0 &&& (255 : Int32)) + (1 : Int32))) (4643211215818981376 : UInt64))), .second, .val (.int 5), .val (.double 9218868437227405312), .second, .val (.double 1), .second, .val (.ref b127), .val (.int 1)] [(.int 1)] _
      refine XS.goto X131.here hx rfl (pc0 := 173) (pc' := 177) rfl (hb hby at_173) (by decide) (by decide) ?_
      show own_S p e below T131 m 177 #[.val (.int p0), .val (.int p1), .val (.int p2), .val (.long q3), .second, .val (.double (FP.ddiv (FP.i2d ((p0 &&& (255 : Int32)) + (1 : Int32))) (4643211215818981376 : UInt64))), .second, .val (.int 5), .val (.double 9218868437227405312), .second, .val (.double 1), .second, .val (.ref b127), .val (.int 1)] [(.int 1)] _
      exact retN X131 hx (t := .boolean) Bd.returns (by simp) (hb hby at_177) hr
    · show Qm0 Z p0 p1 p2 q3 h0 n0 _ T131.heap _
      rw [P131_0]
      exact ⟨rfl, N131⟩
  · skip
    obtain ⟨z6, hz6, hge⟩ := own_w6 p2
    obtain ⟨T132, h132, X132, e132, E132, A132, D132, -, st132⟩ := newO X0 hx hZ hown (own_w hw 3 rfl) (own_w hw 4 rfl) (own_w hw 5 rfl) e0 (g := (mkF m 130 #[.val (.int p0), .val (.int p1), .val (.int p2), .val (.long q3), .second, .val (.double (FP.ddiv (FP.i2d ((p0 &&& (255 : Int32)) + (1 : Int32))) (4643211215818981376 : UInt64))), .second, .val (.int 6), .val (.double 9218868437227405312), .second, .val (.double (FP.ddiv (FP.i2d (p2 &&& (1048575 : Int32))) (4652218415073722368 : UInt64))), .second, .unset, .unset] [])) rfl (hb hby at_130) (by decide) (by decide)
    obtain ⟨b132, g132⟩ : ∃ z, z = h0.size := ⟨_, rfl⟩
    rw [← g132] at A132 D132 st132
    have g_b132 : n0 ≤ b132 := Nat.le_trans Z0 (Nat.le_of_eq g132.symm)
    have ZZ133 : n0 ≤ h132.size := Nat.le_trans Z0 E132.1
    have F_servedShare_b132 : Fld Z h132 b132 "com/example/fireweed/fireweed/model/ServiceTarget" "servedShare" "D" (.double 0) := D132 (Or.inr (own_w hw 18 rfl)) (ty := .double) (by decide)
    have F_maxMeanWaitS_b132 : Fld Z h132 b132 "com/example/fireweed/fireweed/model/ServiceTarget" "maxMeanWaitS" "D" (.double 0) := D132 (Or.inr (own_w hw 20 rfl)) (ty := .double) (by decide)
    obtain ⟨_, _, ⟨T134, L134, k134, n134⟩, -, X134, ⟨Lc134, hQ134, l134, y134, z134⟩, st134⟩ := X132.specialBack hx (y := (⟨"com/example/fireweed/fireweed/model/ServiceTarget", "<init>", "(DD)V"⟩ : MethodName)) rfl hown (mvT hZ (own_w hw 6 rfl)) (mvT hZ (own_w hw 7 rfl)) (mvT hZ (own_w hw 8 rfl)) (by decide) (backOf (W := 1) (rmm1 l Z a0 hw [] b132 (FP.ddiv (FP.i2d ((p0 &&& (255 : Int32)) + (1 : Int32))) (4643211215818981376 : UInt64)) (FP.ddiv (FP.i2d (p2 &&& (1048575 : Int32))) (4652218415073722368 : UInt64)) (.double 0) (.double 0) h132 n0 ZZ133 F_servedShare_b132 F_maxMeanWaitS_b132 A132 g_b132 hs6 hs12 (own_nlt hz6 hge)) hZ (own_w hw 8 rfl) (own_w hw 5 rfl) (by decide) (by decide)) (g := (mkF m 138 #[.val (.int p0), .val (.int p1), .val (.int p2), .val (.long q3), .second, .val (.double (FP.ddiv (FP.i2d ((p0 &&& (255 : Int32)) + (1 : Int32))) (4643211215818981376 : UInt64))), .second, .val (.int 6), .val (.double 9218868437227405312), .second, .val (.double (FP.ddiv (FP.i2d (p2 &&& (1048575 : Int32))) (4652218415073722368 : UInt64))), .second, .unset, .unset] [(.double (FP.ddiv (FP.i2d (p2 &&& (1048575 : Int32))) (4652218415073722368 : UInt64))), (.double (FP.ddiv (FP.i2d ((p0 &&& (255 : Int32)) + (1 : Int32))) (4643211215818981376 : UInt64))), (.ref b132), (.ref b132)])) rfl (by rw [hml]; rfl) (Steps.refl _) (a := b132) (argsL := [(.double (FP.ddiv (FP.i2d ((p0 &&& (255 : Int32)) + (1 : Int32))) (4643211215818981376 : UInt64))), (.double (FP.ddiv (FP.i2d (p2 &&& (1048575 : Int32))) (4652218415073722368 : UInt64)))]) (rest := [(.ref b132)]) (lenOf pd1 rfl) rfl (by show 2 * 0 + _ ≤ _; exact Nat.le_of_eq rfl) (hb hby at_138) (fun _ _ => ⟨rfl, e132, (by decide : 1 + 0 ≤ _), (by decide : 2 + 0 ≤ _)⟩)
    dsimp only [Pt.U, Pt.locs, Pt.cells, Pt.slots] at X134 l134 y134 z134 st134 hQ134
    subst l134 y134 z134
    obtain ⟨rfl, Nq134, P134_0, P134_1, P134_2, P134_3⟩ := hQ134
    have N134 := Fr.app N0 Nq134
    have ZZ135 : n0 ≤ T134.heap.size := Nat.le_trans ZZ133 P134_0.1
    obtain ⟨cq136, kq136, q136a, q136b, q136c⟩ := isOf hZ rfl P134_1
    obtain ⟨_, _, ⟨T136, L136, k136, n136⟩, -, X136, ⟨Lc136, hQ136, l136, y136, z136⟩, st136⟩ := X134.virtualBack hx (y := (⟨"com/example/fireweed/fireweed/model/ServiceTarget", "capsWait", "()Z"⟩ : MethodName)) (z := (⟨"com/example/fireweed/fireweed/model/ServiceTarget", "capsWait", "()Z"⟩ : MethodName)) hown (mvT hZ (own_w hw 21 rfl)) (mvT hZ (own_w hw 22 rfl)) (notFace_of_selects (args := #[]) (mvT hZ (own_w hw 24 rfl))) (mvT hZ (own_w hw 24 rfl)) (mvT hZ (own_w hw 23 rfl)) (by decide) (backOf (W := 0) (rmm4 l Z a0 hw [] b132 (FP.ddiv (FP.i2d (p2 &&& (1048575 : Int32))) (4652218415073722368 : UInt64)) T134.heap n0 ZZ135 P134_3) hZ (own_w hw 25 rfl) (own_w hw 5 rfl) (by decide) (by decide)) q136a q136c (g := (mkF m 164 #[.val (.int p0), .val (.int p1), .val (.int p2), .val (.long q3), .second, .val (.double (FP.ddiv (FP.i2d ((p0 &&& (255 : Int32)) + (1 : Int32))) (4643211215818981376 : UInt64))), .second, .val (.int 6), .val (.double 9218868437227405312), .second, .val (.double (FP.ddiv (FP.i2d (p2 &&& (1048575 : Int32))) (4652218415073722368 : UInt64))), .second, .val (.ref b132), .val (.int 1)] [(.ref b132)])) rfl (by rw [hml]; rfl) (Steps.refl _) (argsL := []) (rest := []) (lenOf pd2 rfl) rfl (by show 2 * 0 + _ ≤ _; exact Nat.le_of_eq rfl) (hb hby at_164) (fun _ _ => ⟨rfl, rfl, (by decide : 1 + 0 ≤ _), (by decide : 2 + 0 ≤ _)⟩)
    dsimp only [Pt.U, Pt.locs, Pt.cells, Pt.slots] at X136 l136 y136 z136 st136 hQ136
    subst l136 y136 z136
    obtain ⟨rfl, Nq136, P136_0⟩ := hQ136
    have N136 := Fr.app N134 Nq136
    obtain ⟨fs, hr, hrun, hended, hW, hsame⟩ := X136.leave (v := some (.int 1)) (fun h => by rw [Bd.returns] at h; cases h)
    refine ⟨_, _, pre0 _ (pre101 _ ?_), hrun, hended, _, _, rfl, ?_, ⟨_, rfl⟩, hW, hsame.mono (by decide) (by decide)⟩
    · show own_S p e below s₁ m 18 #[.val (.int p0), .val (.int p1), .val (.int p2), .val (.long q3), .second, .val (.double (FP.ddiv (FP.i2d ((p0 &&& (255 : Int32)) + (1 : Int32))) (4643211215818981376 : UInt64))), .second, .unset, .unset, .unset, .unset, .unset, .unset, .unset] [(.int (p1 &&& (7 : Int32)))] _
      refine reI (hk : (p1 &&& (7 : Int32)) = (6 : Int32)) ?_
      show own_S p e below s₁ m 18 #[.val (.int p0), .val (.int p1), .val (.int p2), .val (.long q3), .second, .val (.double (FP.ddiv (FP.i2d ((p0 &&& (255 : Int32)) + (1 : Int32))) (4643211215818981376 : UInt64))), .second, .unset, .unset, .unset, .unset, .unset, .unset, .unset] [(.int 6)] _
      refine XS.istore X0.here hx rfl (hb hby at_18) rfl (l' := #[.val (.int p0), .val (.int p1), .val (.int p2), .val (.long q3), .second, .val (.double (FP.ddiv (FP.i2d ((p0 &&& (255 : Int32)) + (1 : Int32))) (4643211215818981376 : UInt64))), .second, .val (.int 6), .unset, .unset, .unset, .unset, .unset, .unset]) rfl ?_
      show own_S p e below s₁ m 20 #[.val (.int p0), .val (.int p1), .val (.int p2), .val (.long q3), .second, .val (.double (FP.ddiv (FP.i2d ((p0 &&& (255 : Int32)) + (1 : Int32))) (4643211215818981376 : UInt64))), .second, .val (.int 6), .unset, .unset, .unset, .unset, .unset, .unset] [] _
      refine X0.ldc2DoubleC hx hown (mvT hZ (own_w hw 1 rfl)) (g := (mkF m 20 #[.val (.int p0), .val (.int p1), .val (.int p2), .val (.long q3), .second, .val (.double (FP.ddiv (FP.i2d ((p0 &&& (255 : Int32)) + (1 : Int32))) (4643211215818981376 : UInt64))), .second, .val (.int 6), .unset, .unset, .unset, .unset, .unset, .unset] [])) rfl (hb hby at_20) _ ?_
      show own_S p e below s₁ m 23 #[.val (.int p0), .val (.int p1), .val (.int p2), .val (.long q3), .second, .val (.double (FP.ddiv (FP.i2d ((p0 &&& (255 : Int32)) + (1 : Int32))) (4643211215818981376 : UInt64))), .second, .val (.int 6), .unset, .unset, .unset, .unset, .unset, .unset] [(.double 9218868437227405312)] _
      refine XS.dstore X0.here hx rfl (hb hby at_23) rfl (l' := #[.val (.int p0), .val (.int p1), .val (.int p2), .val (.long q3), .second, .val (.double (FP.ddiv (FP.i2d ((p0 &&& (255 : Int32)) + (1 : Int32))) (4643211215818981376 : UInt64))), .second, .val (.int 6), .val (.double 9218868437227405312), .second, .unset, .unset, .unset, .unset]) rfl ?_
      show own_S p e below s₁ m 25 #[.val (.int p0), .val (.int p1), .val (.int p2), .val (.long q3), .second, .val (.double (FP.ddiv (FP.i2d ((p0 &&& (255 : Int32)) + (1 : Int32))) (4643211215818981376 : UInt64))), .second, .val (.int 6), .val (.double 9218868437227405312), .second, .unset, .unset, .unset, .unset] [] _
      refine XS.iload X0.here hx rfl (hb hby at_25) rfl ?_
      show own_S p e below s₁ m 27 #[.val (.int p0), .val (.int p1), .val (.int p2), .val (.long q3), .second, .val (.double (FP.ddiv (FP.i2d ((p0 &&& (255 : Int32)) + (1 : Int32))) (4643211215818981376 : UInt64))), .second, .val (.int 6), .val (.double 9218868437227405312), .second, .unset, .unset, .unset, .unset] [(.int 6)] _
      refine XS.ifNo X0.here hx rfl (hb hby at_27) rfl ((if0 _ _).trans (feq (by decide : ¬ ((6 : Int32) = (0 : Int32)))).1) ?_
      show own_S p e below s₁ m 30 #[.val (.int p0), .val (.int p1), .val (.int p2), .val (.long q3), .second, .val (.double (FP.ddiv (FP.i2d ((p0 &&& (255 : Int32)) + (1 : Int32))) (4643211215818981376 : UInt64))), .second, .val (.int 6), .val (.double 9218868437227405312), .second, .unset, .unset, .unset, .unset] [] _
      refine XS.iload X0.here hx rfl (hb hby at_30) rfl ?_
      show own_S p e below s₁ m 32 #[.val (.int p0), .val (.int p1), .val (.int p2), .val (.long q3), .second, .val (.double (FP.ddiv (FP.i2d ((p0 &&& (255 : Int32)) + (1 : Int32))) (4643211215818981376 : UInt64))), .second, .val (.int 6), .val (.double 9218868437227405312), .second, .unset, .unset, .unset, .unset] [(.int 6)] _
      refine XS.bipush X0.here hx rfl (hb hby at_32) ?_
      show own_S p e below s₁ m 34 #[.val (.int p0), .val (.int p1), .val (.int p2), .val (.long q3), .second, .val (.double (FP.ddiv (FP.i2d ((p0 &&& (255 : Int32)) + (1 : Int32))) (4643211215818981376 : UInt64))), .second, .val (.int 6), .val (.double 9218868437227405312), .second, .unset, .unset, .unset, .unset] [(.int 7), (.int 6)] _
      refine XS.icmpYes X0.here hx rfl (pc0 := 34) (pc' := 44) rfl (hb hby at_34) rfl (feq (by decide : ¬ ((6 : Int32) = (7 : Int32)))).2 (by decide) (by decide) ?_
      show own_S p e below s₁ m 44 #[.val (.int p0), .val (.int p1), .val (.int p2), .val (.long q3), .second, .val (.double (FP.ddiv (FP.i2d ((p0 &&& (255 : Int32)) + (1 : Int32))) (4643211215818981376 : UInt64))), .second, .val (.int 6), .val (.double 9218868437227405312), .second, .unset, .unset, .unset, .unset] [] _
      refine XS.iload X0.here hx rfl (hb hby at_44) rfl ?_
      show own_S p e below s₁ m 46 #[.val (.int p0), .val (.int p1), .val (.int p2), .val (.long q3), .second, .val (.double (FP.ddiv (FP.i2d ((p0 &&& (255 : Int32)) + (1 : Int32))) (4643211215818981376 : UInt64))), .second, .val (.int 6), .val (.double 9218868437227405312), .second, .unset, .unset, .unset, .unset] [(.int 6)] _
      refine XS.iconst X0.here hx rfl (hb hby at_46) ?_
      show own_S p e below s₁ m 47 #[.val (.int p0), .val (.int p1), .val (.int p2), .val (.long q3), .second, .val (.double (FP.ddiv (FP.i2d ((p0 &&& (255 : Int32)) + (1 : Int32))) (4643211215818981376 : UInt64))), .second, .val (.int 6), .val (.double 9218868437227405312), .second, .unset, .unset, .unset, .unset] [(.int 1), (.int 6)] _
      refine XS.icmpYes X0.here hx rfl (pc0 := 47) (pc' := 60) rfl (hb hby at_47) rfl (feq (by decide : ¬ ((6 : Int32) = (1 : Int32)))).2 (by decide) (by decide) ?_
      show own_S p e below s₁ m 60 #[.val (.int p0), .val (.int p1), .val (.int p2), .val (.long q3), .second, .val (.double (FP.ddiv (FP.i2d ((p0 &&& (255 : Int32)) + (1 : Int32))) (4643211215818981376 : UInt64))), .second, .val (.int 6), .val (.double 9218868437227405312), .second, .unset, .unset, .unset, .unset] [] _
      refine XS.iload X0.here hx rfl (hb hby at_60) rfl ?_
      show own_S p e below s₁ m 62 #[.val (.int p0), .val (.int p1), .val (.int p2), .val (.long q3), .second, .val (.double (FP.ddiv (FP.i2d ((p0 &&& (255 : Int32)) + (1 : Int32))) (4643211215818981376 : UInt64))), .second, .val (.int 6), .val (.double 9218868437227405312), .second, .unset, .unset, .unset, .unset] [(.int 6)] _
      refine XS.iconst X0.here hx rfl (hb hby at_62) ?_
      show own_S p e below s₁ m 63 #[.val (.int p0), .val (.int p1), .val (.int p2), .val (.long q3), .second, .val (.double (FP.ddiv (FP.i2d ((p0 &&& (255 : Int32)) + (1 : Int32))) (4643211215818981376 : UInt64))), .second, .val (.int 6), .val (.double 9218868437227405312), .second, .unset, .unset, .unset, .unset] [(.int 2), (.int 6)] _
      refine XS.icmpYes X0.here hx rfl (pc0 := 63) (pc' := 74) rfl (hb hby at_63) rfl (feq (by decide : ¬ ((6 : Int32) = (2 : Int32)))).2 (by decide) (by decide) ?_
      show own_S p e below s₁ m 74 #[.val (.int p0), .val (.int p1), .val (.int p2), .val (.long q3), .second, .val (.double (FP.ddiv (FP.i2d ((p0 &&& (255 : Int32)) + (1 : Int32))) (4643211215818981376 : UInt64))), .second, .val (.int 6), .val (.double 9218868437227405312), .second, .unset, .unset, .unset, .unset] [] _
      refine XS.iload X0.here hx rfl (hb hby at_74) rfl ?_
      show own_S p e below s₁ m 76 #[.val (.int p0), .val (.int p1), .val (.int p2), .val (.long q3), .second, .val (.double (FP.ddiv (FP.i2d ((p0 &&& (255 : Int32)) + (1 : Int32))) (4643211215818981376 : UInt64))), .second, .val (.int 6), .val (.double 9218868437227405312), .second, .unset, .unset, .unset, .unset] [(.int 6)] _
      refine XS.iconst X0.here hx rfl (hb hby at_76) ?_
      show own_S p e below s₁ m 77 #[.val (.int p0), .val (.int p1), .val (.int p2), .val (.long q3), .second, .val (.double (FP.ddiv (FP.i2d ((p0 &&& (255 : Int32)) + (1 : Int32))) (4643211215818981376 : UInt64))), .second, .val (.int 6), .val (.double 9218868437227405312), .second, .unset, .unset, .unset, .unset] [(.int 3), (.int 6)] _
      refine XS.icmpYes X0.here hx rfl (pc0 := 77) (pc' := 91) rfl (hb hby at_77) rfl (feq (by decide : ¬ ((6 : Int32) = (3 : Int32)))).2 (by decide) (by decide) ?_
      show own_S p e below s₁ m 91 #[.val (.int p0), .val (.int p1), .val (.int p2), .val (.long q3), .second, .val (.double (FP.ddiv (FP.i2d ((p0 &&& (255 : Int32)) + (1 : Int32))) (4643211215818981376 : UInt64))), .second, .val (.int 6), .val (.double 9218868437227405312), .second, .unset, .unset, .unset, .unset] [] _
      refine XS.iload X0.here hx rfl (hb hby at_91) rfl ?_
      show own_S p e below s₁ m 93 #[.val (.int p0), .val (.int p1), .val (.int p2), .val (.long q3), .second, .val (.double (FP.ddiv (FP.i2d ((p0 &&& (255 : Int32)) + (1 : Int32))) (4643211215818981376 : UInt64))), .second, .val (.int 6), .val (.double 9218868437227405312), .second, .unset, .unset, .unset, .unset] [(.int 6)] _
      refine XS.iconst X0.here hx rfl (hb hby at_93) ?_
      show own_S p e below s₁ m 94 #[.val (.int p0), .val (.int p1), .val (.int p2), .val (.long q3), .second, .val (.double (FP.ddiv (FP.i2d ((p0 &&& (255 : Int32)) + (1 : Int32))) (4643211215818981376 : UInt64))), .second, .val (.int 6), .val (.double 9218868437227405312), .second, .unset, .unset, .unset, .unset] [(.int 4), (.int 6)] _
      refine XS.icmpYes X0.here hx rfl (pc0 := 94) (pc' := 105) rfl (hb hby at_94) rfl (feq (by decide : ¬ ((6 : Int32) = (4 : Int32)))).2 (by decide) (by decide) ?_
      show own_S p e below s₁ m 105 #[.val (.int p0), .val (.int p1), .val (.int p2), .val (.long q3), .second, .val (.double (FP.ddiv (FP.i2d ((p0 &&& (255 : Int32)) + (1 : Int32))) (4643211215818981376 : UInt64))), .second, .val (.int 6), .val (.double 9218868437227405312), .second, .unset, .unset, .unset, .unset] [] _
      refine XS.iload X0.here hx rfl (hb hby at_105) rfl ?_
      show own_S p e below s₁ m 107 #[.val (.int p0), .val (.int p1), .val (.int p2), .val (.long q3), .second, .val (.double (FP.ddiv (FP.i2d ((p0 &&& (255 : Int32)) + (1 : Int32))) (4643211215818981376 : UInt64))), .second, .val (.int 6), .val (.double 9218868437227405312), .second, .unset, .unset, .unset, .unset] [(.int 6)] _
      refine XS.iconst X0.here hx rfl (hb hby at_107) ?_
      show own_S p e below s₁ m 108 #[.val (.int p0), .val (.int p1), .val (.int p2), .val (.long q3), .second, .val (.double (FP.ddiv (FP.i2d ((p0 &&& (255 : Int32)) + (1 : Int32))) (4643211215818981376 : UInt64))), .second, .val (.int 6), .val (.double 9218868437227405312), .second, .unset, .unset, .unset, .unset] [(.int 5), (.int 6)] _
      refine XS.icmpYes X0.here hx rfl (pc0 := 108) (pc' := 119) rfl (hb hby at_108) rfl (feq (by decide : ¬ ((6 : Int32) = (5 : Int32)))).2 (by decide) (by decide) ?_
      show own_S p e below s₁ m 119 #[.val (.int p0), .val (.int p1), .val (.int p2), .val (.long q3), .second, .val (.double (FP.ddiv (FP.i2d ((p0 &&& (255 : Int32)) + (1 : Int32))) (4643211215818981376 : UInt64))), .second, .val (.int 6), .val (.double 9218868437227405312), .second, .unset, .unset, .unset, .unset] [] _
      refine XS.iloadN X0.here hx rfl (hb hby at_119) rfl ?_
      show own_S p e below s₁ m 120 #[.val (.int p0), .val (.int p1), .val (.int p2), .val (.long q3), .second, .val (.double (FP.ddiv (FP.i2d ((p0 &&& (255 : Int32)) + (1 : Int32))) (4643211215818981376 : UInt64))), .second, .val (.int 6), .val (.double 9218868437227405312), .second, .unset, .unset, .unset, .unset] [(.int p2)] _
      refine X0.ldcInt hx hown (mvT hZ (own_w hw 31 rfl)) (g := (mkF m 120 #[.val (.int p0), .val (.int p1), .val (.int p2), .val (.long q3), .second, .val (.double (FP.ddiv (FP.i2d ((p0 &&& (255 : Int32)) + (1 : Int32))) (4643211215818981376 : UInt64))), .second, .val (.int 6), .val (.double 9218868437227405312), .second, .unset, .unset, .unset, .unset] [(.int p2)])) rfl (hb hby at_120) _ ?_
      show own_S p e below s₁ m 122 #[.val (.int p0), .val (.int p1), .val (.int p2), .val (.long q3), .second, .val (.double (FP.ddiv (FP.i2d ((p0 &&& (255 : Int32)) + (1 : Int32))) (4643211215818981376 : UInt64))), .second, .val (.int 6), .val (.double 9218868437227405312), .second, .unset, .unset, .unset, .unset] [(.int 1048575), (.int p2)] _
      refine XS.iand X0.here hx rfl (hb hby at_122) rfl ?_
      show own_S p e below s₁ m 123 #[.val (.int p0), .val (.int p1), .val (.int p2), .val (.long q3), .second, .val (.double (FP.ddiv (FP.i2d ((p0 &&& (255 : Int32)) + (1 : Int32))) (4643211215818981376 : UInt64))), .second, .val (.int 6), .val (.double 9218868437227405312), .second, .unset, .unset, .unset, .unset] [(.int (p2 &&& (1048575 : Int32)))] _
      refine XS.i2dS X0.here hx rfl (v := (FP.i2d (p2 &&& (1048575 : Int32)))) (hb hby at_123) rfl rfl ?_
      show own_S p e below s₁ m 124 #[.val (.int p0), .val (.int p1), .val (.int p2), .val (.long q3), .second, .val (.double (FP.ddiv (FP.i2d ((p0 &&& (255 : Int32)) + (1 : Int32))) (4643211215818981376 : UInt64))), .second, .val (.int 6), .val (.double 9218868437227405312), .second, .unset, .unset, .unset, .unset] [(.double (FP.i2d (p2 &&& (1048575 : Int32))))] _
      refine X0.ldc2DoubleC hx hown (mvT hZ (own_w hw 32 rfl)) (g := (mkF m 124 #[.val (.int p0), .val (.int p1), .val (.int p2), .val (.long q3), .second, .val (.double (FP.ddiv (FP.i2d ((p0 &&& (255 : Int32)) + (1 : Int32))) (4643211215818981376 : UInt64))), .second, .val (.int 6), .val (.double 9218868437227405312), .second, .unset, .unset, .unset, .unset] [(.double (FP.i2d (p2 &&& (1048575 : Int32))))])) rfl (hb hby at_124) _ ?_
      show own_S p e below s₁ m 127 #[.val (.int p0), .val (.int p1), .val (.int p2), .val (.long q3), .second, .val (.double (FP.ddiv (FP.i2d ((p0 &&& (255 : Int32)) + (1 : Int32))) (4643211215818981376 : UInt64))), .second, .val (.int 6), .val (.double 9218868437227405312), .second, .unset, .unset, .unset, .unset] [(.double 4652218415073722368), (.double (FP.i2d (p2 &&& (1048575 : Int32))))] _
      refine XS.ddivS X0.here hx rfl (v := (FP.ddiv (FP.i2d (p2 &&& (1048575 : Int32))) (4652218415073722368 : UInt64))) (hb hby at_127) rfl (own_at_nn hz6) rfl ?_
      show own_S p e below s₁ m 128 #[.val (.int p0), .val (.int p1), .val (.int p2), .val (.long q3), .second, .val (.double (FP.ddiv (FP.i2d ((p0 &&& (255 : Int32)) + (1 : Int32))) (4643211215818981376 : UInt64))), .second, .val (.int 6), .val (.double 9218868437227405312), .second, .unset, .unset, .unset, .unset] [(.double (FP.ddiv (FP.i2d (p2 &&& (1048575 : Int32))) (4652218415073722368 : UInt64)))] _
      refine XS.dstore X0.here hx rfl (hb hby at_128) rfl (l' := #[.val (.int p0), .val (.int p1), .val (.int p2), .val (.long q3), .second, .val (.double (FP.ddiv (FP.i2d ((p0 &&& (255 : Int32)) + (1 : Int32))) (4643211215818981376 : UInt64))), .second, .val (.int 6), .val (.double 9218868437227405312), .second, .val (.double (FP.ddiv (FP.i2d (p2 &&& (1048575 : Int32))) (4652218415073722368 : UInt64))), .second, .unset, .unset]) rfl ?_
      show own_S p e below s₁ m 130 #[.val (.int p0), .val (.int p1), .val (.int p2), .val (.long q3), .second, .val (.double (FP.ddiv (FP.i2d ((p0 &&& (255 : Int32)) + (1 : Int32))) (4643211215818981376 : UInt64))), .second, .val (.int 6), .val (.double 9218868437227405312), .second, .val (.double (FP.ddiv (FP.i2d (p2 &&& (1048575 : Int32))) (4652218415073722368 : UInt64))), .second, .unset, .unset] [] _
      refine st132 _ ?_
      show own_S p e below T132 m 133 #[.val (.int p0), .val (.int p1), .val (.int p2), .val (.long q3), .second, .val (.double (FP.ddiv (FP.i2d ((p0 &&& (255 : Int32)) + (1 : Int32))) (4643211215818981376 : UInt64))), .second, .val (.int 6), .val (.double 9218868437227405312), .second, .val (.double (FP.ddiv (FP.i2d (p2 &&& (1048575 : Int32))) (4652218415073722368 : UInt64))), .second, .unset, .unset] [(.ref b132)] _
      refine XS.dup X132.here hx rfl (hb hby at_133) rfl rfl ?_
      show own_S p e below T132 m 134 #[.val (.int p0), .val (.int p1), .val (.int p2), .val (.long q3), .second, .val (.double (FP.ddiv (FP.i2d ((p0 &&& (255 : Int32)) + (1 : Int32))) (4643211215818981376 : UInt64))), .second, .val (.int 6), .val (.double 9218868437227405312), .second, .val (.double (FP.ddiv (FP.i2d (p2 &&& (1048575 : Int32))) (4652218415073722368 : UInt64))), .second, .unset, .unset] [(.ref b132), (.ref b132)] _
      refine XS.dload X132.here hx rfl (hb hby at_134) rfl ?_
      show own_S p e below T132 m 136 #[.val (.int p0), .val (.int p1), .val (.int p2), .val (.long q3), .second, .val (.double (FP.ddiv (FP.i2d ((p0 &&& (255 : Int32)) + (1 : Int32))) (4643211215818981376 : UInt64))), .second, .val (.int 6), .val (.double 9218868437227405312), .second, .val (.double (FP.ddiv (FP.i2d (p2 &&& (1048575 : Int32))) (4652218415073722368 : UInt64))), .second, .unset, .unset] [(.double (FP.ddiv (FP.i2d ((p0 &&& (255 : Int32)) + (1 : Int32))) (4643211215818981376 : UInt64))), (.ref b132), (.ref b132)] _
      refine XS.dload X132.here hx rfl (hb hby at_136) rfl ?_
      show own_S p e below T132 m 138 #[.val (.int p0), .val (.int p1), .val (.int p2), .val (.long q3), .second, .val (.double (FP.ddiv (FP.i2d ((p0 &&& (255 : Int32)) + (1 : Int32))) (4643211215818981376 : UInt64))), .second, .val (.int 6), .val (.double 9218868437227405312), .second, .val (.double (FP.ddiv (FP.i2d (p2 &&& (1048575 : Int32))) (4652218415073722368 : UInt64))), .second, .unset, .unset] [(.double (FP.ddiv (FP.i2d (p2 &&& (1048575 : Int32))) (4652218415073722368 : UInt64))), (.double (FP.ddiv (FP.i2d ((p0 &&& (255 : Int32)) + (1 : Int32))) (4643211215818981376 : UInt64))), (.ref b132), (.ref b132)] _
      refine st134.trans ?_
      show own_S p e below T134 m 141 #[.val (.int p0), .val (.int p1), .val (.int p2), .val (.long q3), .second, .val (.double (FP.ddiv (FP.i2d ((p0 &&& (255 : Int32)) + (1 : Int32))) (4643211215818981376 : UInt64))), .second, .val (.int 6), .val (.double 9218868437227405312), .second, .val (.double (FP.ddiv (FP.i2d (p2 &&& (1048575 : Int32))) (4652218415073722368 : UInt64))), .second, .unset, .unset] [(.ref b132)] _
      refine XS.astore X134.here hx rfl (hb hby at_141) rfl rfl (l' := #[.val (.int p0), .val (.int p1), .val (.int p2), .val (.long q3), .second, .val (.double (FP.ddiv (FP.i2d ((p0 &&& (255 : Int32)) + (1 : Int32))) (4643211215818981376 : UInt64))), .second, .val (.int 6), .val (.double 9218868437227405312), .second, .val (.double (FP.ddiv (FP.i2d (p2 &&& (1048575 : Int32))) (4652218415073722368 : UInt64))), .second, .val (.ref b132), .unset]) rfl ?_
      show own_S p e below T134 m 143 #[.val (.int p0), .val (.int p1), .val (.int p2), .val (.long q3), .second, .val (.double (FP.ddiv (FP.i2d ((p0 &&& (255 : Int32)) + (1 : Int32))) (4643211215818981376 : UInt64))), .second, .val (.int 6), .val (.double 9218868437227405312), .second, .val (.double (FP.ddiv (FP.i2d (p2 &&& (1048575 : Int32))) (4652218415073722368 : UInt64))), .second, .val (.ref b132), .unset] [] _
      refine XS.iload X134.here hx rfl (hb hby at_143) rfl ?_
      show own_S p e below T134 m 145 #[.val (.int p0), .val (.int p1), .val (.int p2), .val (.long q3), .second, .val (.double (FP.ddiv (FP.i2d ((p0 &&& (255 : Int32)) + (1 : Int32))) (4643211215818981376 : UInt64))), .second, .val (.int 6), .val (.double 9218868437227405312), .second, .val (.double (FP.ddiv (FP.i2d (p2 &&& (1048575 : Int32))) (4652218415073722368 : UInt64))), .second, .val (.ref b132), .unset] [(.int 6)] _
      refine XS.ifNo X134.here hx rfl (hb hby at_145) rfl ((if0 _ _).trans (feq (by decide : ¬ ((6 : Int32) = (0 : Int32)))).1) ?_
      show own_S p e below T134 m 148 #[.val (.int p0), .val (.int p1), .val (.int p2), .val (.long q3), .second, .val (.double (FP.ddiv (FP.i2d ((p0 &&& (255 : Int32)) + (1 : Int32))) (4643211215818981376 : UInt64))), .second, .val (.int 6), .val (.double 9218868437227405312), .second, .val (.double (FP.ddiv (FP.i2d (p2 &&& (1048575 : Int32))) (4652218415073722368 : UInt64))), .second, .val (.ref b132), .unset] [] _
      refine XS.iload X134.here hx rfl (hb hby at_148) rfl ?_
      show own_S p e below T134 m 150 #[.val (.int p0), .val (.int p1), .val (.int p2), .val (.long q3), .second, .val (.double (FP.ddiv (FP.i2d ((p0 &&& (255 : Int32)) + (1 : Int32))) (4643211215818981376 : UInt64))), .second, .val (.int 6), .val (.double 9218868437227405312), .second, .val (.double (FP.ddiv (FP.i2d (p2 &&& (1048575 : Int32))) (4652218415073722368 : UInt64))), .second, .val (.ref b132), .unset] [(.int 6)] _
      refine XS.bipush X134.here hx rfl (hb hby at_150) ?_
      show own_S p e below T134 m 152 #[.val (.int p0), .val (.int p1), .val (.int p2), .val (.long q3), .second, .val (.double (FP.ddiv (FP.i2d ((p0 &&& (255 : Int32)) + (1 : Int32))) (4643211215818981376 : UInt64))), .second, .val (.int 6), .val (.double 9218868437227405312), .second, .val (.double (FP.ddiv (FP.i2d (p2 &&& (1048575 : Int32))) (4652218415073722368 : UInt64))), .second, .val (.ref b132), .unset] [(.int 7), (.int 6)] _
      refine XS.icmpNo X134.here hx rfl (hb hby at_152) rfl (feq (by decide : ¬ ((6 : Int32) = (7 : Int32)))).1 ?_
      show own_S p e below T134 m 155 #[.val (.int p0), .val (.int p1), .val (.int p2), .val (.long q3), .second, .val (.double (FP.ddiv (FP.i2d ((p0 &&& (255 : Int32)) + (1 : Int32))) (4643211215818981376 : UInt64))), .second, .val (.int 6), .val (.double 9218868437227405312), .second, .val (.double (FP.ddiv (FP.i2d (p2 &&& (1048575 : Int32))) (4652218415073722368 : UInt64))), .second, .val (.ref b132), .unset] [] _
      refine XS.iconst X134.here hx rfl (hb hby at_155) ?_
      show own_S p e below T134 m 156 #[.val (.int p0), .val (.int p1), .val (.int p2), .val (.long q3), .second, .val (.double (FP.ddiv (FP.i2d ((p0 &&& (255 : Int32)) + (1 : Int32))) (4643211215818981376 : UInt64))), .second, .val (.int 6), .val (.double 9218868437227405312), .second, .val (.double (FP.ddiv (FP.i2d (p2 &&& (1048575 : Int32))) (4652218415073722368 : UInt64))), .second, .val (.ref b132), .unset] [(.int 1)] _
      refine XS.goto X134.here hx rfl (pc0 := 156) (pc' := 160) rfl (hb hby at_156) (by decide) (by decide) ?_
      show own_S p e below T134 m 160 #[.val (.int p0), .val (.int p1), .val (.int p2), .val (.long q3), .second, .val (.double (FP.ddiv (FP.i2d ((p0 &&& (255 : Int32)) + (1 : Int32))) (4643211215818981376 : UInt64))), .second, .val (.int 6), .val (.double 9218868437227405312), .second, .val (.double (FP.ddiv (FP.i2d (p2 &&& (1048575 : Int32))) (4652218415073722368 : UInt64))), .second, .val (.ref b132), .unset] [(.int 1)] _
      refine XS.istore X134.here hx rfl (hb hby at_160) rfl (l' := #[.val (.int p0), .val (.int p1), .val (.int p2), .val (.long q3), .second, .val (.double (FP.ddiv (FP.i2d ((p0 &&& (255 : Int32)) + (1 : Int32))) (4643211215818981376 : UInt64))), .second, .val (.int 6), .val (.double 9218868437227405312), .second, .val (.double (FP.ddiv (FP.i2d (p2 &&& (1048575 : Int32))) (4652218415073722368 : UInt64))), .second, .val (.ref b132), .val (.int 1)]) rfl ?_
      show own_S p e below T134 m 162 #[.val (.int p0), .val (.int p1), .val (.int p2), .val (.long q3), .second, .val (.double (FP.ddiv (FP.i2d ((p0 &&& (255 : Int32)) + (1 : Int32))) (4643211215818981376 : UInt64))), .second, .val (.int 6), .val (.double 9218868437227405312), .second, .val (.double (FP.ddiv (FP.i2d (p2 &&& (1048575 : Int32))) (4652218415073722368 : UInt64))), .second, .val (.ref b132), .val (.int 1)] [] _
      refine XS.aload X134.here hx rfl (hb hby at_162) rfl rfl ?_
      show own_S p e below T134 m 164 #[.val (.int p0), .val (.int p1), .val (.int p2), .val (.long q3), .second, .val (.double (FP.ddiv (FP.i2d ((p0 &&& (255 : Int32)) + (1 : Int32))) (4643211215818981376 : UInt64))), .second, .val (.int 6), .val (.double 9218868437227405312), .second, .val (.double (FP.ddiv (FP.i2d (p2 &&& (1048575 : Int32))) (4652218415073722368 : UInt64))), .second, .val (.ref b132), .val (.int 1)] [(.ref b132)] _
      refine st136.trans ?_
      show own_S p e below T136 m 167 #[.val (.int p0), .val (.int p1), .val (.int p2), .val (.long q3), .second, .val (.double (FP.ddiv (FP.i2d ((p0 &&& (255 : Int32)) + (1 : Int32))) (4643211215818981376 : UInt64))), .second, .val (.int 6), .val (.double 9218868437227405312), .second, .val (.double (FP.ddiv (FP.i2d (p2 &&& (1048575 : Int32))) (4652218415073722368 : UInt64))), .second, .val (.ref b132), .val (.int 1)] [(.int (own_rch (FP.ddiv (FP.i2d (p2 &&& (1048575 : Int32))) (4652218415073722368 : UInt64))))] _
      refine reI (own_rfin (own_at_fin hz6) : (own_rch (FP.ddiv (FP.i2d (p2 &&& (1048575 : Int32))) (4652218415073722368 : UInt64))) = (1 : Int32)) ?_
      show own_S p e below T136 m 167 #[.val (.int p0), .val (.int p1), .val (.int p2), .val (.long q3), .second, .val (.double (FP.ddiv (FP.i2d ((p0 &&& (255 : Int32)) + (1 : Int32))) (4643211215818981376 : UInt64))), .second, .val (.int 6), .val (.double 9218868437227405312), .second, .val (.double (FP.ddiv (FP.i2d (p2 &&& (1048575 : Int32))) (4652218415073722368 : UInt64))), .second, .val (.ref b132), .val (.int 1)] [(.int 1)] _
      refine XS.iload X136.here hx rfl (hb hby at_167) rfl ?_
      show own_S p e below T136 m 169 #[.val (.int p0), .val (.int p1), .val (.int p2), .val (.long q3), .second, .val (.double (FP.ddiv (FP.i2d ((p0 &&& (255 : Int32)) + (1 : Int32))) (4643211215818981376 : UInt64))), .second, .val (.int 6), .val (.double 9218868437227405312), .second, .val (.double (FP.ddiv (FP.i2d (p2 &&& (1048575 : Int32))) (4652218415073722368 : UInt64))), .second, .val (.ref b132), .val (.int 1)] [(.int 1), (.int 1)] _
      refine XS.icmpNo X136.here hx rfl (hb hby at_169) rfl (teq (by decide : (1 : Int32) = (1 : Int32))).2 ?_
      show own_S p e below T136 m 172 #[.val (.int p0), .val (.int p1), .val (.int p2), .val (.long q3), .second, .val (.double (FP.ddiv (FP.i2d ((p0 &&& (255 : Int32)) + (1 : Int32))) (4643211215818981376 : UInt64))), .second, .val (.int 6), .val (.double 9218868437227405312), .second, .val (.double (FP.ddiv (FP.i2d (p2 &&& (1048575 : Int32))) (4652218415073722368 : UInt64))), .second, .val (.ref b132), .val (.int 1)] [] _
      refine XS.iconst X136.here hx rfl (hb hby at_172) ?_
      show own_S p e below T136 m 173 #[.val (.int p0), .val (.int p1), .val (.int p2), .val (.long q3), .second, .val (.double (FP.ddiv (FP.i2d ((p0 &&& (255 : Int32)) + (1 : Int32))) (4643211215818981376 : UInt64))), .second, .val (.int 6), .val (.double 9218868437227405312), .second, .val (.double (FP.ddiv (FP.i2d (p2 &&& (1048575 : Int32))) (4652218415073722368 : UInt64))), .second, .val (.ref b132), .val (.int 1)] [(.int 1)] _
      refine XS.goto X136.here hx rfl (pc0 := 173) (pc' := 177) rfl (hb hby at_173) (by decide) (by decide) ?_
      show own_S p e below T136 m 177 #[.val (.int p0), .val (.int p1), .val (.int p2), .val (.long q3), .second, .val (.double (FP.ddiv (FP.i2d ((p0 &&& (255 : Int32)) + (1 : Int32))) (4643211215818981376 : UInt64))), .second, .val (.int 6), .val (.double 9218868437227405312), .second, .val (.double (FP.ddiv (FP.i2d (p2 &&& (1048575 : Int32))) (4652218415073722368 : UInt64))), .second, .val (.ref b132), .val (.int 1)] [(.int 1)] _
      exact retN X136 hx (t := .boolean) Bd.returns (by simp) (hb hby at_177) hr
    · show Qm0 Z p0 p1 p2 q3 h0 n0 _ T136.heap _
      rw [P136_0]
      exact ⟨rfl, N136⟩
  · skip
    obtain ⟨T137, h137, X137, e137, E137, A137, D137, -, st137⟩ := newO X0 hx hZ hown (own_w hw 3 rfl) (own_w hw 4 rfl) (own_w hw 5 rfl) e0 (g := (mkF m 130 #[.val (.int p0), .val (.int p1), .val (.int p2), .val (.long q3), .second, .val (.double (FP.ddiv (FP.i2d ((p0 &&& (255 : Int32)) + (1 : Int32))) (4643211215818981376 : UInt64))), .second, .val (.int 7), .val (.double 9218868437227405312), .second, .val (.double 9218868437227405312), .second, .unset, .unset] [])) rfl (hb hby at_130) (by decide) (by decide)
    obtain ⟨b137, g137⟩ : ∃ z, z = h0.size := ⟨_, rfl⟩
    rw [← g137] at A137 D137 st137
    have g_b137 : n0 ≤ b137 := Nat.le_trans Z0 (Nat.le_of_eq g137.symm)
    have ZZ138 : n0 ≤ h137.size := Nat.le_trans Z0 E137.1
    have F_servedShare_b137 : Fld Z h137 b137 "com/example/fireweed/fireweed/model/ServiceTarget" "servedShare" "D" (.double 0) := D137 (Or.inr (own_w hw 18 rfl)) (ty := .double) (by decide)
    have F_maxMeanWaitS_b137 : Fld Z h137 b137 "com/example/fireweed/fireweed/model/ServiceTarget" "maxMeanWaitS" "D" (.double 0) := D137 (Or.inr (own_w hw 20 rfl)) (ty := .double) (by decide)
    obtain ⟨_, _, ⟨T139, L139, k139, n139⟩, -, X139, ⟨Lc139, hQ139, l139, y139, z139⟩, st139⟩ := X137.specialBack hx (y := (⟨"com/example/fireweed/fireweed/model/ServiceTarget", "<init>", "(DD)V"⟩ : MethodName)) rfl hown (mvT hZ (own_w hw 6 rfl)) (mvT hZ (own_w hw 7 rfl)) (mvT hZ (own_w hw 8 rfl)) (by decide) (backOf (W := 1) (rmm1 l Z a0 hw [] b137 (FP.ddiv (FP.i2d ((p0 &&& (255 : Int32)) + (1 : Int32))) (4643211215818981376 : UInt64)) (9218868437227405312 : UInt64) (.double 0) (.double 0) h137 n0 ZZ138 F_servedShare_b137 F_maxMeanWaitS_b137 A137 g_b137 hs6 hs12 (by decide +kernel)) hZ (own_w hw 8 rfl) (own_w hw 5 rfl) (by decide) (by decide)) (g := (mkF m 138 #[.val (.int p0), .val (.int p1), .val (.int p2), .val (.long q3), .second, .val (.double (FP.ddiv (FP.i2d ((p0 &&& (255 : Int32)) + (1 : Int32))) (4643211215818981376 : UInt64))), .second, .val (.int 7), .val (.double 9218868437227405312), .second, .val (.double 9218868437227405312), .second, .unset, .unset] [(.double 9218868437227405312), (.double (FP.ddiv (FP.i2d ((p0 &&& (255 : Int32)) + (1 : Int32))) (4643211215818981376 : UInt64))), (.ref b137), (.ref b137)])) rfl (by rw [hml]; rfl) (Steps.refl _) (a := b137) (argsL := [(.double (FP.ddiv (FP.i2d ((p0 &&& (255 : Int32)) + (1 : Int32))) (4643211215818981376 : UInt64))), (.double 9218868437227405312)]) (rest := [(.ref b137)]) (lenOf pd1 rfl) rfl (by show 2 * 0 + _ ≤ _; exact Nat.le_of_eq rfl) (hb hby at_138) (fun _ _ => ⟨rfl, e137, (by decide : 1 + 0 ≤ _), (by decide : 2 + 0 ≤ _)⟩)
    dsimp only [Pt.U, Pt.locs, Pt.cells, Pt.slots] at X139 l139 y139 z139 st139 hQ139
    subst l139 y139 z139
    obtain ⟨rfl, Nq139, P139_0, P139_1, P139_2, P139_3⟩ := hQ139
    have N139 := Fr.app N0 Nq139
    have ZZ140 : n0 ≤ T139.heap.size := Nat.le_trans ZZ138 P139_0.1
    obtain ⟨cq141, kq141, q141a, q141b, q141c⟩ := isOf hZ rfl P139_1
    obtain ⟨_, _, ⟨T141, L141, k141, n141⟩, -, X141, ⟨Lc141, hQ141, l141, y141, z141⟩, st141⟩ := X139.virtualBack hx (y := (⟨"com/example/fireweed/fireweed/model/ServiceTarget", "capsWait", "()Z"⟩ : MethodName)) (z := (⟨"com/example/fireweed/fireweed/model/ServiceTarget", "capsWait", "()Z"⟩ : MethodName)) hown (mvT hZ (own_w hw 21 rfl)) (mvT hZ (own_w hw 22 rfl)) (notFace_of_selects (args := #[]) (mvT hZ (own_w hw 24 rfl))) (mvT hZ (own_w hw 24 rfl)) (mvT hZ (own_w hw 23 rfl)) (by decide) (backOf (W := 0) (rmm4 l Z a0 hw [] b137 (9218868437227405312 : UInt64) T139.heap n0 ZZ140 P139_3) hZ (own_w hw 25 rfl) (own_w hw 5 rfl) (by decide) (by decide)) q141a q141c (g := (mkF m 164 #[.val (.int p0), .val (.int p1), .val (.int p2), .val (.long q3), .second, .val (.double (FP.ddiv (FP.i2d ((p0 &&& (255 : Int32)) + (1 : Int32))) (4643211215818981376 : UInt64))), .second, .val (.int 7), .val (.double 9218868437227405312), .second, .val (.double 9218868437227405312), .second, .val (.ref b137), .val (.int 0)] [(.ref b137)])) rfl (by rw [hml]; rfl) (Steps.refl _) (argsL := []) (rest := []) (lenOf pd2 rfl) rfl (by show 2 * 0 + _ ≤ _; exact Nat.le_of_eq rfl) (hb hby at_164) (fun _ _ => ⟨rfl, rfl, (by decide : 1 + 0 ≤ _), (by decide : 2 + 0 ≤ _)⟩)
    dsimp only [Pt.U, Pt.locs, Pt.cells, Pt.slots] at X141 l141 y141 z141 st141 hQ141
    subst l141 y141 z141
    obtain ⟨rfl, Nq141, P141_0⟩ := hQ141
    have N141 := Fr.app N139 Nq141
    obtain ⟨fs, hr, hrun, hended, hW, hsame⟩ := X141.leave (v := some (.int 1)) (fun h => by rw [Bd.returns] at h; cases h)
    refine ⟨_, _, pre0 _ (pre101 _ ?_), hrun, hended, _, _, rfl, ?_, ⟨_, rfl⟩, hW, hsame.mono (by decide) (by decide)⟩
    · show own_S p e below s₁ m 18 #[.val (.int p0), .val (.int p1), .val (.int p2), .val (.long q3), .second, .val (.double (FP.ddiv (FP.i2d ((p0 &&& (255 : Int32)) + (1 : Int32))) (4643211215818981376 : UInt64))), .second, .unset, .unset, .unset, .unset, .unset, .unset, .unset] [(.int (p1 &&& (7 : Int32)))] _
      refine reI (hk : (p1 &&& (7 : Int32)) = (7 : Int32)) ?_
      show own_S p e below s₁ m 18 #[.val (.int p0), .val (.int p1), .val (.int p2), .val (.long q3), .second, .val (.double (FP.ddiv (FP.i2d ((p0 &&& (255 : Int32)) + (1 : Int32))) (4643211215818981376 : UInt64))), .second, .unset, .unset, .unset, .unset, .unset, .unset, .unset] [(.int 7)] _
      refine XS.istore X0.here hx rfl (hb hby at_18) rfl (l' := #[.val (.int p0), .val (.int p1), .val (.int p2), .val (.long q3), .second, .val (.double (FP.ddiv (FP.i2d ((p0 &&& (255 : Int32)) + (1 : Int32))) (4643211215818981376 : UInt64))), .second, .val (.int 7), .unset, .unset, .unset, .unset, .unset, .unset]) rfl ?_
      show own_S p e below s₁ m 20 #[.val (.int p0), .val (.int p1), .val (.int p2), .val (.long q3), .second, .val (.double (FP.ddiv (FP.i2d ((p0 &&& (255 : Int32)) + (1 : Int32))) (4643211215818981376 : UInt64))), .second, .val (.int 7), .unset, .unset, .unset, .unset, .unset, .unset] [] _
      refine X0.ldc2DoubleC hx hown (mvT hZ (own_w hw 1 rfl)) (g := (mkF m 20 #[.val (.int p0), .val (.int p1), .val (.int p2), .val (.long q3), .second, .val (.double (FP.ddiv (FP.i2d ((p0 &&& (255 : Int32)) + (1 : Int32))) (4643211215818981376 : UInt64))), .second, .val (.int 7), .unset, .unset, .unset, .unset, .unset, .unset] [])) rfl (hb hby at_20) _ ?_
      show own_S p e below s₁ m 23 #[.val (.int p0), .val (.int p1), .val (.int p2), .val (.long q3), .second, .val (.double (FP.ddiv (FP.i2d ((p0 &&& (255 : Int32)) + (1 : Int32))) (4643211215818981376 : UInt64))), .second, .val (.int 7), .unset, .unset, .unset, .unset, .unset, .unset] [(.double 9218868437227405312)] _
      refine XS.dstore X0.here hx rfl (hb hby at_23) rfl (l' := #[.val (.int p0), .val (.int p1), .val (.int p2), .val (.long q3), .second, .val (.double (FP.ddiv (FP.i2d ((p0 &&& (255 : Int32)) + (1 : Int32))) (4643211215818981376 : UInt64))), .second, .val (.int 7), .val (.double 9218868437227405312), .second, .unset, .unset, .unset, .unset]) rfl ?_
      show own_S p e below s₁ m 25 #[.val (.int p0), .val (.int p1), .val (.int p2), .val (.long q3), .second, .val (.double (FP.ddiv (FP.i2d ((p0 &&& (255 : Int32)) + (1 : Int32))) (4643211215818981376 : UInt64))), .second, .val (.int 7), .val (.double 9218868437227405312), .second, .unset, .unset, .unset, .unset] [] _
      refine XS.iload X0.here hx rfl (hb hby at_25) rfl ?_
      show own_S p e below s₁ m 27 #[.val (.int p0), .val (.int p1), .val (.int p2), .val (.long q3), .second, .val (.double (FP.ddiv (FP.i2d ((p0 &&& (255 : Int32)) + (1 : Int32))) (4643211215818981376 : UInt64))), .second, .val (.int 7), .val (.double 9218868437227405312), .second, .unset, .unset, .unset, .unset] [(.int 7)] _
      refine XS.ifNo X0.here hx rfl (hb hby at_27) rfl ((if0 _ _).trans (feq (by decide : ¬ ((7 : Int32) = (0 : Int32)))).1) ?_
      show own_S p e below s₁ m 30 #[.val (.int p0), .val (.int p1), .val (.int p2), .val (.long q3), .second, .val (.double (FP.ddiv (FP.i2d ((p0 &&& (255 : Int32)) + (1 : Int32))) (4643211215818981376 : UInt64))), .second, .val (.int 7), .val (.double 9218868437227405312), .second, .unset, .unset, .unset, .unset] [] _
      refine XS.iload X0.here hx rfl (hb hby at_30) rfl ?_
      show own_S p e below s₁ m 32 #[.val (.int p0), .val (.int p1), .val (.int p2), .val (.long q3), .second, .val (.double (FP.ddiv (FP.i2d ((p0 &&& (255 : Int32)) + (1 : Int32))) (4643211215818981376 : UInt64))), .second, .val (.int 7), .val (.double 9218868437227405312), .second, .unset, .unset, .unset, .unset] [(.int 7)] _
      refine XS.bipush X0.here hx rfl (hb hby at_32) ?_
      show own_S p e below s₁ m 34 #[.val (.int p0), .val (.int p1), .val (.int p2), .val (.long q3), .second, .val (.double (FP.ddiv (FP.i2d ((p0 &&& (255 : Int32)) + (1 : Int32))) (4643211215818981376 : UInt64))), .second, .val (.int 7), .val (.double 9218868437227405312), .second, .unset, .unset, .unset, .unset] [(.int 7), (.int 7)] _
      refine XS.icmpNo X0.here hx rfl (hb hby at_34) rfl (teq (by decide : (7 : Int32) = (7 : Int32))).2 ?_
      show own_S p e below s₁ m 37 #[.val (.int p0), .val (.int p1), .val (.int p2), .val (.long q3), .second, .val (.double (FP.ddiv (FP.i2d ((p0 &&& (255 : Int32)) + (1 : Int32))) (4643211215818981376 : UInt64))), .second, .val (.int 7), .val (.double 9218868437227405312), .second, .unset, .unset, .unset, .unset] [] _
      refine XS.dload X0.here hx rfl (hb hby at_37) rfl ?_
      show own_S p e below s₁ m 39 #[.val (.int p0), .val (.int p1), .val (.int p2), .val (.long q3), .second, .val (.double (FP.ddiv (FP.i2d ((p0 &&& (255 : Int32)) + (1 : Int32))) (4643211215818981376 : UInt64))), .second, .val (.int 7), .val (.double 9218868437227405312), .second, .unset, .unset, .unset, .unset] [(.double 9218868437227405312)] _
      refine XS.dstore X0.here hx rfl (hb hby at_39) rfl (l' := #[.val (.int p0), .val (.int p1), .val (.int p2), .val (.long q3), .second, .val (.double (FP.ddiv (FP.i2d ((p0 &&& (255 : Int32)) + (1 : Int32))) (4643211215818981376 : UInt64))), .second, .val (.int 7), .val (.double 9218868437227405312), .second, .val (.double 9218868437227405312), .second, .unset, .unset]) rfl ?_
      show own_S p e below s₁ m 41 #[.val (.int p0), .val (.int p1), .val (.int p2), .val (.long q3), .second, .val (.double (FP.ddiv (FP.i2d ((p0 &&& (255 : Int32)) + (1 : Int32))) (4643211215818981376 : UInt64))), .second, .val (.int 7), .val (.double 9218868437227405312), .second, .val (.double 9218868437227405312), .second, .unset, .unset] [] _
      refine XS.goto X0.here hx rfl (pc0 := 41) (pc' := 130) rfl (hb hby at_41) (by decide) (by decide) ?_
      show own_S p e below s₁ m 130 #[.val (.int p0), .val (.int p1), .val (.int p2), .val (.long q3), .second, .val (.double (FP.ddiv (FP.i2d ((p0 &&& (255 : Int32)) + (1 : Int32))) (4643211215818981376 : UInt64))), .second, .val (.int 7), .val (.double 9218868437227405312), .second, .val (.double 9218868437227405312), .second, .unset, .unset] [] _
      refine st137 _ ?_
      show own_S p e below T137 m 133 #[.val (.int p0), .val (.int p1), .val (.int p2), .val (.long q3), .second, .val (.double (FP.ddiv (FP.i2d ((p0 &&& (255 : Int32)) + (1 : Int32))) (4643211215818981376 : UInt64))), .second, .val (.int 7), .val (.double 9218868437227405312), .second, .val (.double 9218868437227405312), .second, .unset, .unset] [(.ref b137)] _
      refine XS.dup X137.here hx rfl (hb hby at_133) rfl rfl ?_
      show own_S p e below T137 m 134 #[.val (.int p0), .val (.int p1), .val (.int p2), .val (.long q3), .second, .val (.double (FP.ddiv (FP.i2d ((p0 &&& (255 : Int32)) + (1 : Int32))) (4643211215818981376 : UInt64))), .second, .val (.int 7), .val (.double 9218868437227405312), .second, .val (.double 9218868437227405312), .second, .unset, .unset] [(.ref b137), (.ref b137)] _
      refine XS.dload X137.here hx rfl (hb hby at_134) rfl ?_
      show own_S p e below T137 m 136 #[.val (.int p0), .val (.int p1), .val (.int p2), .val (.long q3), .second, .val (.double (FP.ddiv (FP.i2d ((p0 &&& (255 : Int32)) + (1 : Int32))) (4643211215818981376 : UInt64))), .second, .val (.int 7), .val (.double 9218868437227405312), .second, .val (.double 9218868437227405312), .second, .unset, .unset] [(.double (FP.ddiv (FP.i2d ((p0 &&& (255 : Int32)) + (1 : Int32))) (4643211215818981376 : UInt64))), (.ref b137), (.ref b137)] _
      refine XS.dload X137.here hx rfl (hb hby at_136) rfl ?_
      show own_S p e below T137 m 138 #[.val (.int p0), .val (.int p1), .val (.int p2), .val (.long q3), .second, .val (.double (FP.ddiv (FP.i2d ((p0 &&& (255 : Int32)) + (1 : Int32))) (4643211215818981376 : UInt64))), .second, .val (.int 7), .val (.double 9218868437227405312), .second, .val (.double 9218868437227405312), .second, .unset, .unset] [(.double 9218868437227405312), (.double (FP.ddiv (FP.i2d ((p0 &&& (255 : Int32)) + (1 : Int32))) (4643211215818981376 : UInt64))), (.ref b137), (.ref b137)] _
      refine st139.trans ?_
      show own_S p e below T139 m 141 #[.val (.int p0), .val (.int p1), .val (.int p2), .val (.long q3), .second, .val (.double (FP.ddiv (FP.i2d ((p0 &&& (255 : Int32)) + (1 : Int32))) (4643211215818981376 : UInt64))), .second, .val (.int 7), .val (.double 9218868437227405312), .second, .val (.double 9218868437227405312), .second, .unset, .unset] [(.ref b137)] _
      refine XS.astore X139.here hx rfl (hb hby at_141) rfl rfl (l' := #[.val (.int p0), .val (.int p1), .val (.int p2), .val (.long q3), .second, .val (.double (FP.ddiv (FP.i2d ((p0 &&& (255 : Int32)) + (1 : Int32))) (4643211215818981376 : UInt64))), .second, .val (.int 7), .val (.double 9218868437227405312), .second, .val (.double 9218868437227405312), .second, .val (.ref b137), .unset]) rfl ?_
      show own_S p e below T139 m 143 #[.val (.int p0), .val (.int p1), .val (.int p2), .val (.long q3), .second, .val (.double (FP.ddiv (FP.i2d ((p0 &&& (255 : Int32)) + (1 : Int32))) (4643211215818981376 : UInt64))), .second, .val (.int 7), .val (.double 9218868437227405312), .second, .val (.double 9218868437227405312), .second, .val (.ref b137), .unset] [] _
      refine XS.iload X139.here hx rfl (hb hby at_143) rfl ?_
      show own_S p e below T139 m 145 #[.val (.int p0), .val (.int p1), .val (.int p2), .val (.long q3), .second, .val (.double (FP.ddiv (FP.i2d ((p0 &&& (255 : Int32)) + (1 : Int32))) (4643211215818981376 : UInt64))), .second, .val (.int 7), .val (.double 9218868437227405312), .second, .val (.double 9218868437227405312), .second, .val (.ref b137), .unset] [(.int 7)] _
      refine XS.ifNo X139.here hx rfl (hb hby at_145) rfl ((if0 _ _).trans (feq (by decide : ¬ ((7 : Int32) = (0 : Int32)))).1) ?_
      show own_S p e below T139 m 148 #[.val (.int p0), .val (.int p1), .val (.int p2), .val (.long q3), .second, .val (.double (FP.ddiv (FP.i2d ((p0 &&& (255 : Int32)) + (1 : Int32))) (4643211215818981376 : UInt64))), .second, .val (.int 7), .val (.double 9218868437227405312), .second, .val (.double 9218868437227405312), .second, .val (.ref b137), .unset] [] _
      refine XS.iload X139.here hx rfl (hb hby at_148) rfl ?_
      show own_S p e below T139 m 150 #[.val (.int p0), .val (.int p1), .val (.int p2), .val (.long q3), .second, .val (.double (FP.ddiv (FP.i2d ((p0 &&& (255 : Int32)) + (1 : Int32))) (4643211215818981376 : UInt64))), .second, .val (.int 7), .val (.double 9218868437227405312), .second, .val (.double 9218868437227405312), .second, .val (.ref b137), .unset] [(.int 7)] _
      refine XS.bipush X139.here hx rfl (hb hby at_150) ?_
      show own_S p e below T139 m 152 #[.val (.int p0), .val (.int p1), .val (.int p2), .val (.long q3), .second, .val (.double (FP.ddiv (FP.i2d ((p0 &&& (255 : Int32)) + (1 : Int32))) (4643211215818981376 : UInt64))), .second, .val (.int 7), .val (.double 9218868437227405312), .second, .val (.double 9218868437227405312), .second, .val (.ref b137), .unset] [(.int 7), (.int 7)] _
      refine XS.icmpYes X139.here hx rfl (pc0 := 152) (pc' := 159) rfl (hb hby at_152) rfl (teq (by decide : (7 : Int32) = (7 : Int32))).1 (by decide) (by decide) ?_
      show own_S p e below T139 m 159 #[.val (.int p0), .val (.int p1), .val (.int p2), .val (.long q3), .second, .val (.double (FP.ddiv (FP.i2d ((p0 &&& (255 : Int32)) + (1 : Int32))) (4643211215818981376 : UInt64))), .second, .val (.int 7), .val (.double 9218868437227405312), .second, .val (.double 9218868437227405312), .second, .val (.ref b137), .unset] [] _
      refine XS.iconst X139.here hx rfl (hb hby at_159) ?_
      show own_S p e below T139 m 160 #[.val (.int p0), .val (.int p1), .val (.int p2), .val (.long q3), .second, .val (.double (FP.ddiv (FP.i2d ((p0 &&& (255 : Int32)) + (1 : Int32))) (4643211215818981376 : UInt64))), .second, .val (.int 7), .val (.double 9218868437227405312), .second, .val (.double 9218868437227405312), .second, .val (.ref b137), .unset] [(.int 0)] _
      refine XS.istore X139.here hx rfl (hb hby at_160) rfl (l' := #[.val (.int p0), .val (.int p1), .val (.int p2), .val (.long q3), .second, .val (.double (FP.ddiv (FP.i2d ((p0 &&& (255 : Int32)) + (1 : Int32))) (4643211215818981376 : UInt64))), .second, .val (.int 7), .val (.double 9218868437227405312), .second, .val (.double 9218868437227405312), .second, .val (.ref b137), .val (.int 0)]) rfl ?_
      show own_S p e below T139 m 162 #[.val (.int p0), .val (.int p1), .val (.int p2), .val (.long q3), .second, .val (.double (FP.ddiv (FP.i2d ((p0 &&& (255 : Int32)) + (1 : Int32))) (4643211215818981376 : UInt64))), .second, .val (.int 7), .val (.double 9218868437227405312), .second, .val (.double 9218868437227405312), .second, .val (.ref b137), .val (.int 0)] [] _
      refine XS.aload X139.here hx rfl (hb hby at_162) rfl rfl ?_
      show own_S p e below T139 m 164 #[.val (.int p0), .val (.int p1), .val (.int p2), .val (.long q3), .second, .val (.double (FP.ddiv (FP.i2d ((p0 &&& (255 : Int32)) + (1 : Int32))) (4643211215818981376 : UInt64))), .second, .val (.int 7), .val (.double 9218868437227405312), .second, .val (.double 9218868437227405312), .second, .val (.ref b137), .val (.int 0)] [(.ref b137)] _
      refine st141.trans ?_
      show own_S p e below T141 m 167 #[.val (.int p0), .val (.int p1), .val (.int p2), .val (.long q3), .second, .val (.double (FP.ddiv (FP.i2d ((p0 &&& (255 : Int32)) + (1 : Int32))) (4643211215818981376 : UInt64))), .second, .val (.int 7), .val (.double 9218868437227405312), .second, .val (.double 9218868437227405312), .second, .val (.ref b137), .val (.int 0)] [(.int (own_rch (9218868437227405312 : UInt64)))] _
      refine reI (own_rinf : (own_rch (9218868437227405312 : UInt64)) = (0 : Int32)) ?_
      show own_S p e below T141 m 167 #[.val (.int p0), .val (.int p1), .val (.int p2), .val (.long q3), .second, .val (.double (FP.ddiv (FP.i2d ((p0 &&& (255 : Int32)) + (1 : Int32))) (4643211215818981376 : UInt64))), .second, .val (.int 7), .val (.double 9218868437227405312), .second, .val (.double 9218868437227405312), .second, .val (.ref b137), .val (.int 0)] [(.int 0)] _
      refine XS.iload X141.here hx rfl (hb hby at_167) rfl ?_
      show own_S p e below T141 m 169 #[.val (.int p0), .val (.int p1), .val (.int p2), .val (.long q3), .second, .val (.double (FP.ddiv (FP.i2d ((p0 &&& (255 : Int32)) + (1 : Int32))) (4643211215818981376 : UInt64))), .second, .val (.int 7), .val (.double 9218868437227405312), .second, .val (.double 9218868437227405312), .second, .val (.ref b137), .val (.int 0)] [(.int 0), (.int 0)] _
      refine XS.icmpNo X141.here hx rfl (hb hby at_169) rfl (teq (by decide : (0 : Int32) = (0 : Int32))).2 ?_
      show own_S p e below T141 m 172 #[.val (.int p0), .val (.int p1), .val (.int p2), .val (.long q3), .second, .val (.double (FP.ddiv (FP.i2d ((p0 &&& (255 : Int32)) + (1 : Int32))) (4643211215818981376 : UInt64))), .second, .val (.int 7), .val (.double 9218868437227405312), .second, .val (.double 9218868437227405312), .second, .val (.ref b137), .val (.int 0)] [] _
      refine XS.iconst X141.here hx rfl (hb hby at_172) ?_
      show own_S p e below T141 m 173 #[.val (.int p0), .val (.int p1), .val (.int p2), .val (.long q3), .second, .val (.double (FP.ddiv (FP.i2d ((p0 &&& (255 : Int32)) + (1 : Int32))) (4643211215818981376 : UInt64))), .second, .val (.int 7), .val (.double 9218868437227405312), .second, .val (.double 9218868437227405312), .second, .val (.ref b137), .val (.int 0)] [(.int 1)] _
      refine XS.goto X141.here hx rfl (pc0 := 173) (pc' := 177) rfl (hb hby at_173) (by decide) (by decide) ?_
      show own_S p e below T141 m 177 #[.val (.int p0), .val (.int p1), .val (.int p2), .val (.long q3), .second, .val (.double (FP.ddiv (FP.i2d ((p0 &&& (255 : Int32)) + (1 : Int32))) (4643211215818981376 : UInt64))), .second, .val (.int 7), .val (.double 9218868437227405312), .second, .val (.double 9218868437227405312), .second, .val (.ref b137), .val (.int 0)] [(.int 1)] _
      exact retN X141 hx (t := .boolean) Bd.returns (by simp) (hb hby at_177) hr
    · show Qm0 Z p0 p1 p2 q3 h0 n0 _ T141.heap _
      rw [P141_0]
      exact ⟨rfl, N141⟩
set_option maxRecDepth 65536 in
set_option maxHeartbeats 40000000 in
theorem comes_1 {Post : Tables → Env → Array Value → State → Outcome → State → Prop} (hpost : ∀ tb e args s v u, (limb_1_1.after args s (.returned v) u = true ∧ limb_1_2.after args s (.returned v) u = true ∧ True) → FrameEnd s (.returned v) u (Jvm.fieldLocs frame_1_writes args s ++ Jvm.arrayLocs frame_1_arrays args s ++ Jvm.staticLocs frame_1_statics s) 16 128 → Post tb e args s (.returned v) u) :
    ArmFor flags0 classFile x code maxLocals ret World_1 tables_1 room_1 Calls_1 rest_1 Pre_1 Post := by
  intro l hfl _ _ p e ha hc hk s m args below hf hA hF happ hP
  obtain ⟨hcalls, hrest, hpre⟩ := hP
  obtain ⟨-, -, -, hnamed, -, -, -, hat⟩ := (Spec.applies_iff hf).mp happ
  obtain ⟨hg, hn⟩ := and_e (Cond.before_iff.mp (show (Jvm.Cond.and given_1 narrow_1).before args s = true from hpre))
  obtain ⟨hcount, hg0⟩ := and_e hg
  obtain ⟨hv0, hg1⟩ := and_e hg0
  obtain ⟨hv1, hg2⟩ := and_e hg1
  obtain ⟨hv2, hg3⟩ := and_e hg2
  obtain ⟨w0, w1, w2, w3, rfl⟩ : ∃ w0 w1 w2 w3 : Value, args = #[w0, w1, w2, w3] := by
    have hs : args.size = 4 := by simpa [Cond.value, given_1] using hcount
    obtain ⟨L⟩ := args
    match L, hs with
    | [w0, w1, w2, w3], _ => exact ⟨w0, w1, w2, w3, rfl⟩
  have hw := fun d (hd : d ∈ tables_1) => atoms_spec (ws := Jvm.Cond.code x code maxLocals ret :: tables_1) hat d (List.mem_cons_of_mem _ hd)
  have hfit : Fit s := fun {y c} hc i hi => by
    obtain ⟨ha, rfl⟩ := Array.getElem?_eq_some_iff.mp hc
    have q := List.all_eq_true.mp ((Array.all_eq_true_iff_forall_mem.mp hF) _ (Array.getElem_mem ha)) i (List.mem_range.mpr hi)
    simpa [Array.getElem?_eq_getElem hi] using q
  obtain ⟨i0, ei0⟩ := is_v hv0
  obtain rfl : w0 = (.int i0) := Option.some.inj ei0
  obtain ⟨i1, ei1⟩ := is_v hv1
  obtain rfl : w1 = (.int i1) := Option.some.inj ei1
  obtain ⟨i2, ei2⟩ := is_v hv2
  obtain rfl : w2 = (.int i2) := Option.some.inj ei2
  obtain ⟨i3, ei3⟩ := isL_v hg3
  obtain rfl : w3 = (.long i3) := Option.some.inj ei3
  obtain ⟨n, o, h1, h2, h3, _, L, rfl, ⟨rfl, N⟩, hq⟩ := rmm0 l s _ hw tables_1 i0 i1 i2 i3 s.heap s.heap.size (Nat.le_refl _)  p e ha hc hk s m _ below hf ((Spec.applies_iff_loose hf).mp happ).1 ⟨rfl, State.Warmed39.refl s, rfl⟩ trivial
  refine ⟨n, _, h1, h2, h3, hpost _ _ _ _ _ _ ⟨Cond.after_iff.mpr rfl, Cond.after_iff.mpr (eq_i res_at (Term.int_eval (1)) rfl), trivial⟩ ⟨hq.1, hq.2.1, (hq.2.2.sift fun y hy => Or.inr (N y hy)).mono (by decide) (by decide)⟩⟩
theorem main_1_1 : Claimed_1_1 := comes_1 fun _ _ _ _ _ _ h hF => ⟨h.1, hF⟩
theorem main_1_2 : Claimed_1_2 := comes_1 fun _ _ _ _ _ _ h hF => ⟨h.2.1, hF⟩
end Jvm.Pilot.@@N@@
namespace Jvm.Pilot.@@N@@
open Jvm Jvm.ClassFile Sem Op Lib Jvm.Free Jvm.Stand Jvm.Pilot.@@N@@.Jvm.D
/-! MADE BY PROGRAM (witnessworld.py) out of the Statement's table words and the real class files: 10 classes; the members and pool entries that the words name. The judged class is class 1, her method 1. -/
namespace start1
open Jvm.ClassFile
def u (s : String) : CpInfo := .utf8 (stringToUtf16 s)
/-- a pool by its gaps: so many unusable entries, then the entry; so many at the end -/
def gap : Nat → List CpInfo → List CpInfo
  | 0, r => r
  | n + 1, r => .unusable :: gap n r
def poolList (es : List (Nat × CpInfo)) (last : Nat) : List CpInfo := es.foldr (fun e r => gap e.1 (e.2 :: r)) (gap last [])
def pool (es : List (Nat × CpInfo)) (last : Nat) : Array CpInfo := ⟨poolList es last⟩
def fileOf (pool : Array CpInfo) (this : Nat) (attrs : Array Attribute := #[]) (ms : Array MethodInfo := #[]) (fl : Nat := 33) (sup : Nat := 0) (ifs : Array Nat := #[]) (fds : Array FieldInfo := #[]) : ClassFile where
  minorVersion := 0
  majorVersion := 65
  constantPool := pool
  accessFlags := fl
  thisClass := this
  superClass := sup
  interfaces := ifs
  fields := fds
  methods := ms
  attributes := attrs
def plain (name : String) (sup : Option ClassId) : Class where
  name := name
  kind := .ordinary
  loader := none
  accessFlags := 33
  super := sup
  interfaces := #[]
  cf := none
  fields := #[]
  methods := #[]
  instanceTypes := #[]
  staticTypes := #[]
  resolved := #[]
  callSites := []
  init := .initialized
  statics := none
  mirror := none

def pool0 : Array CpInfo := pool [(5, u "<init>"), (0, u "()V"), (1, .class_ 10), (1, u "java/lang/Object")] 113

def k0c0 : Code := { maxStack := 0, maxLocals := 1, code := object_method_1_code, exceptionTable := #[], attributes := #[] }
def k0m0 : Method := { name := "<init>", desc := "()V", sig := { parameters := [], returnType := none }, accessFlags := 1, code := some k0c0 }
/-- java/lang/Object -/
def k0 : Class := { plain "java/lang/Object" none with
  accessFlags := 33
  interfaces := #[]
  cf := some (fileOf pool0 8 #[] #[{ accessFlags := 1, nameIndex := 5, descriptorIndex := 6, attributes := #[] }] 33 0 #[] #[])
  fields := #[]
  methods := #[k0m0]
  instanceTypes := #[]
  staticTypes := #[]
  resolved := Array.replicate 124 none
  statics := none }

def pool1 : Array CpInfo := pool [(2, .class_ 4), (1, u "java/lang/Object"), (0, u "<init>"), (0, u "()V"), (0, .double 4643211215818981376), (1, .double 9218868437227405312), (1, .integer 65535), (0, .double 9218868437227405311), (3, .long 9223372036854775807), (1, .double 9223372036854775808), (1, .double 1), (1, .integer 1048575), (0, .double 4652218415073722368), (1, .class_ 26), (0, u "com/example/fireweed/fireweed/model/ServiceTarget"), (0, .methodref 25 28), (0, .nameAndType 5 29), (0, u "(DD)V"), (0, .methodref 25 31), (0, .nameAndType 32 33), (0, u "capsWait"), (0, u "()Z"), (0, .class_ 35), (0, u "com/example/fireweed/fireweed/model/ServiceTargetCapsWaitPinLaw"), (2, u "law"), (0, u "(IIIJ)Z")] 3

def k1m0 : Method := { name := "<init>", desc := "()V", sig := { parameters := [], returnType := none }, accessFlags := 1, code := none }
def k1c1 : Code := { maxStack := 6, maxLocals := 14, code := code, exceptionTable := #[], attributes := #[] }
def k1m1 : Method := { name := "law", desc := "(IIIJ)Z", sig := { parameters := [.int, .int, .int, .long], returnType := some .boolean }, accessFlags := 9, code := some k1c1 }
/-- com/example/fireweed/fireweed/model/ServiceTargetCapsWaitPinLaw -/
def k1 : Class := { plain "com/example/fireweed/fireweed/model/ServiceTargetCapsWaitPinLaw" (some 0) with
  accessFlags := 49
  interfaces := #[]
  cf := some (fileOf pool1 34 #[] #[{ accessFlags := 1, nameIndex := 5, descriptorIndex := 6, attributes := #[] }, { accessFlags := 9, nameIndex := 38, descriptorIndex := 39, attributes := #[] }] 49 2 #[] #[])
  fields := #[]
  methods := #[k1m0, k1m1]
  instanceTypes := #[]
  staticTypes := #[]
  resolved := Array.replicate 43 none
  statics := none }

def pool2 : Array CpInfo := pool [(1, .methodref 2 3), (0, .class_ 4), (0, .nameAndType 5 6), (0, u "java/lang/Object"), (0, u "<init>"), (0, u "()V"), (0, .class_ 8), (0, u "java/lang/Record")] 13

def k2c0 : Code := { maxStack := 1, maxLocals := 1, code := jdk_30_method_1_code, exceptionTable := #[], attributes := #[] }
def k2m0 : Method := { name := "<init>", desc := "()V", sig := { parameters := [], returnType := none }, accessFlags := 4, code := some k2c0 }
/-- java/lang/Record -/
def k2 : Class := { plain "java/lang/Record" (some 0) with
  accessFlags := 1057
  interfaces := #[]
  cf := some (fileOf pool2 7 #[] #[{ accessFlags := 4, nameIndex := 5, descriptorIndex := 6, attributes := #[] }] 1057 2 #[] #[])
  fields := #[]
  methods := #[k2m0]
  instanceTypes := #[]
  staticTypes := #[]
  resolved := Array.replicate 22 none
  statics := none }

def pool3 : Array CpInfo := pool [(1, .methodref 2 3), (0, .class_ 4), (0, .nameAndType 5 6), (0, u "java/lang/Record"), (0, u "<init>"), (0, u "()V"), (10, .fieldref 18 19), (0, .class_ 20), (0, .nameAndType 21 22), (0, u "com/example/fireweed/fireweed/model/ServiceTarget"), (0, u "servedShare"), (0, u "D"), (0, .fieldref 18 24), (0, .nameAndType 25 22), (0, u "maxMeanWaitS"), (2, .double 9218868437227405312), (21, u "(DD)V"), (4, u "capsWait"), (0, u "()Z")] 36

def k3c0 : Code := { maxStack := 4, maxLocals := 5, code := prog_60_method_1_code, exceptionTable := #[], attributes := #[] }
def k3m0 : Method := { name := "<init>", desc := "(DD)V", sig := { parameters := [.double, .double], returnType := none }, accessFlags := 1, code := some k3c0 }
def k3c1 : Code := { maxStack := 4, maxLocals := 1, code := prog_60_method_2_code, exceptionTable := #[], attributes := #[] }
def k3m1 : Method := { name := "capsWait", desc := "()Z", sig := { parameters := [], returnType := some .boolean }, accessFlags := 1, code := some k3c1 }
/-- com/example/fireweed/fireweed/model/ServiceTarget -/
def k3 : Class := { plain "com/example/fireweed/fireweed/model/ServiceTarget" (some 2) with
  accessFlags := 49
  interfaces := #[]
  cf := some (fileOf pool3 18 #[] #[{ accessFlags := 1, nameIndex := 5, descriptorIndex := 50, attributes := #[] }, { accessFlags := 1, nameIndex := 55, descriptorIndex := 56, attributes := #[] }] 49 2 #[] #[{ accessFlags := 18, nameIndex := 21, descriptorIndex := 22, attributes := #[] }, { accessFlags := 18, nameIndex := 25, descriptorIndex := 22, attributes := #[] }])
  fields := #[{ name := "servedShare", type := .double, accessFlags := 18, slot := 0, constantValue := 0 }, { name := "maxMeanWaitS", type := .double, accessFlags := 18, slot := 1, constantValue := 0 }]
  methods := #[k3m0, k3m1]
  instanceTypes := #[.double, .double]
  staticTypes := #[]
  resolved := Array.replicate 93 none
  statics := none }

def pool4 : Array CpInfo := pool [(1, u "java/lang/Cloneable"), (0, .class_ 1), (0, u "java/lang/Object"), (0, .class_ 3)] 3

/-- java/lang/Cloneable -/
def k4 : Class := { plain "java/lang/Cloneable" (some 0) with
  accessFlags := 1537
  interfaces := #[]
  cf := some (fileOf pool4 2 #[] #[] 1537 4 #[] #[])
  fields := #[]
  methods := #[]
  instanceTypes := #[]
  staticTypes := #[]
  resolved := Array.replicate 8 none
  statics := none }

def pool5 : Array CpInfo := pool [(1, u "java/io/Serializable"), (0, .class_ 1), (0, u "java/lang/Object"), (0, .class_ 3)] 3

/-- java/io/Serializable -/
def k5 : Class := { plain "java/io/Serializable" (some 0) with
  accessFlags := 1537
  interfaces := #[]
  cf := some (fileOf pool5 2 #[] #[] 1537 4 #[] #[])
  fields := #[]
  methods := #[]
  instanceTypes := #[]
  staticTypes := #[]
  resolved := Array.replicate 8 none
  statics := none }

/-- the primitive byte -/
def k6 : Class := { plain "byte" none with kind := .primitive 'B', accessFlags := 0x411 }
/-- [B -/
def k7 : Class := { plain "[B" (some 0) with kind := .array 6 .byte, interfaces := #[4, 5], accessFlags := 1041 }

/-- the primitive int -/
def k8 : Class := { plain "int" none with kind := .primitive 'I', accessFlags := 0x411 }
/-- [I -/
def k9 : Class := { plain "[I" (some 0) with kind := .array 8 .int, interfaces := #[4, 5], accessFlags := 1041 }

def heap : Heap := #[]
def classes : Array Class := #[k0, k1, k2, k3, k4, k5, k6, k7, k8, k9]
def interned : List (Array UInt16 × Addr) := []
def slotsUsed : Nat := 0
def theMethod : MethodId := ⟨1, 1⟩
def args0 : Array Value := #[.int 5, .int 1, .int 7, .long 8]
def aboutOver (below : List Frame) : State where
  vm := { classes := classes, interned := interned.toArray }
  heap := heap
  slotsUsed := slotsUsed
  threads := #[{ frames := .invoking theMethod args0 :: below }]
def below0 : List Frame := [.native { method := ⟨0, 0⟩, args := #[] }]
def about1 : State := aboutOver below0
def p0 : Program := .bare "" "" ""
def e0 : Env := launch0.env 0 0 0
theorem w_frames : about1.frames = Frame.invoking theMethod args0 :: below0 := rfl
set_option maxRecDepth 65536 in
theorem w_args : argsFit about1.vm theMethod args0 = true := by decide +kernel
set_option maxRecDepth 65536 in
theorem w_heap : heapFits about1 = true := by decide +kernel
set_option maxRecDepth 65536 in
theorem w_runnable : about1.curStatus? = some .runnable := by decide +kernel
set_option maxRecDepth 65536 in
theorem w_alone : about1.alone = true := by decide +kernel
set_option maxRecDepth 65536 in
theorem w_named : about1.methodNamed? x = some theMethod := by decide +kernel
set_option maxRecDepth 65536 in
theorem w_hears : about1.hears theMethod below0 = true := by decide +kernel
set_option maxRecDepth 65536 in
theorem w_ripe : about1.ripe theMethod args0 below0 = true := by decide +kernel
theorem w_running : about1.status = .running := rfl
set_option maxRecDepth 65536 in
theorem w_room : about1.hasRoom e0.platform room_1 = true :=
  launch0.hasRoom_least _ room_1 (by decide +kernel) (by decide +kernel) (by decide +kernel) (by decide +kernel) (by decide +kernel) (by decide +kernel)
theorem allAtoms_all (ts : List Jvm.Cond) (a : Array Jvm.Value) (st : Jvm.State) : (allAtoms ts).before a st = ts.all (fun c => c.before a st) := by
  induction ts with
  | nil => rfl
  | cons c t ih =>
    show (Jvm.Cond.and c (allAtoms t)).before a st = _
    rw [Jvm.Cond.before_and, ih, List.all_cons]
def words1 : List Jvm.Cond := Jvm.Cond.code x code maxLocals ret :: tables_1
/-- a 'code' word, met by the world's own term for the bytes: nothing is compared byte by byte -/
theorem code_word {y : MethodName} {bytes : ByteArray} {mx : Nat} {rt : Option FieldType} {a : Array Value} {s : State} {m : MethodId} {meth : Method} {c : Code} (h1 : s.methodNamed? y = some m) (h2 : s.vm.method? m = some meth) (h3 : meth.code = some c) (h4 : c.code = bytes)
    (h5 : (c.maxLocals == mx && c.exceptionTable.isEmpty && decide (c.maxStack ≤ mostOperands) && decide (meth.sig.returnType = rt) && !meth.locks && decide (parseMethodDescriptor y.desc = some meth.sig)) = true) : (Jvm.Cond.code y bytes mx rt).before a s = true := by
  simp only [Bool.and_eq_true, beq_iff_eq, Bool.not_eq_true', decide_eq_true_eq] at h5
  obtain ⟨⟨⟨⟨⟨g1, g2⟩, g3⟩, g4⟩, g5⟩, g6⟩ := h5
  simp [Cond.before, Cond.holds, Cond.value, h1, h2, h3, h4, g1, g2, g3, g4, g5, g6]
def isCode : Jvm.Cond → Bool
  | .code _ _ _ _ => true
  | _ => false
theorem all_split {L : List Jvm.Cond} {P : Jvm.Cond → Bool} (h1 : L.all (fun c => isCode c || P c) = true) (h2 : ∀ c ∈ L.filter isCode, P c = true) : L.all P = true := by
  refine List.all_eq_true.mpr fun c hc => ?_
  have h := List.all_eq_true.mp h1 c hc
  rcases Bool.eq_false_or_eq_true (isCode c) with hi | hi
  · exact h2 c (List.mem_filter.mpr ⟨hc, hi⟩)
  · simpa [hi] using h
set_option maxRecDepth 65536 in
theorem w_c0 : (Jvm.Cond.code x code maxLocals ret).before args0 about1 = true := code_word (m := ⟨1, 1⟩) (meth := k1m1) (c := k1c1) (by decide +kernel) rfl rfl rfl (by decide +kernel)
set_option maxRecDepth 65536 in
theorem w_c1 : (Jvm.Cond.code ({ cls := "com/example/fireweed/fireweed/model/ServiceTarget", name := "<init>", desc := "(DD)V" } : Jvm.MethodName) prog_60_method_1_code (5 : Nat) (Option.none : Option Jvm.ClassFile.FieldType)).before args0 about1 = true := code_word (m := ⟨3, 0⟩) (meth := k3m0) (c := k3c0) (by decide +kernel) rfl rfl rfl (by decide +kernel)
set_option maxRecDepth 65536 in
theorem w_c2 : (Jvm.Cond.code ({ cls := "java/lang/Record", name := "<init>", desc := "()V" } : Jvm.MethodName) jdk_30_method_1_code (1 : Nat) (Option.none : Option Jvm.ClassFile.FieldType)).before args0 about1 = true := code_word (m := ⟨2, 0⟩) (meth := k2m0) (c := k2c0) (by decide +kernel) rfl rfl rfl (by decide +kernel)
set_option maxRecDepth 65536 in
theorem w_c3 : (Jvm.Cond.code ({ cls := "java/lang/Object", name := "<init>", desc := "()V" } : Jvm.MethodName) object_method_1_code (1 : Nat) (Option.none : Option Jvm.ClassFile.FieldType)).before args0 about1 = true := code_word (m := ⟨0, 0⟩) (meth := k0m0) (c := k0c0) (by decide +kernel) rfl rfl rfl (by decide +kernel)
set_option maxRecDepth 65536 in
theorem w_c4 : (Jvm.Cond.code ({ cls := "com/example/fireweed/fireweed/model/ServiceTarget", name := "capsWait", desc := "()Z" } : Jvm.MethodName) prog_60_method_2_code (1 : Nat) (Option.some Jvm.ClassFile.FieldType.boolean)).before args0 about1 = true := code_word (m := ⟨3, 1⟩) (meth := k3m1) (c := k3c1) (by decide +kernel) rfl rfl rfl (by decide +kernel)
def codes1 : List Jvm.Cond := [Jvm.Cond.code x code maxLocals ret, Jvm.Cond.code ({ cls := "com/example/fireweed/fireweed/model/ServiceTarget", name := "<init>", desc := "(DD)V" } : Jvm.MethodName) prog_60_method_1_code (5 : Nat) (Option.none : Option Jvm.ClassFile.FieldType), Jvm.Cond.code ({ cls := "java/lang/Record", name := "<init>", desc := "()V" } : Jvm.MethodName) jdk_30_method_1_code (1 : Nat) (Option.none : Option Jvm.ClassFile.FieldType), Jvm.Cond.code ({ cls := "java/lang/Object", name := "<init>", desc := "()V" } : Jvm.MethodName) object_method_1_code (1 : Nat) (Option.none : Option Jvm.ClassFile.FieldType), Jvm.Cond.code ({ cls := "com/example/fireweed/fireweed/model/ServiceTarget", name := "capsWait", desc := "()Z" } : Jvm.MethodName) prog_60_method_2_code (1 : Nat) (Option.some Jvm.ClassFile.FieldType.boolean)]
set_option maxRecDepth 65536 in
theorem codes_eq : words1.filter isCode = codes1 := rfl
theorem w_codes : ∀ c ∈ words1.filter isCode, c.before args0 about1 = true := by
  rw [codes_eq]
  intro c hc
  simp only [codes1, List.mem_cons, List.not_mem_nil, or_false] at hc
  rcases hc with rfl | rfl | rfl | rfl | rfl
  · exact w_c0
  · exact w_c1
  · exact w_c2
  · exact w_c3
  · exact w_c4
set_option maxRecDepth 65536 in
theorem w_t1 : (words1.take 24).all (fun c => isCode c || c.before args0 about1) = true := by decide +kernel
set_option maxRecDepth 65536 in
theorem w_t2 : (words1.drop 24).all (fun c => isCode c || c.before args0 about1) = true := by decide +kernel
theorem w_tables : (allAtoms (Jvm.Cond.code x code maxLocals ret :: tables_1)).before args0 about1 = true := by
  rw [allAtoms_all]
  show words1.all (fun c => c.before args0 about1) = true
  refine all_split ?_ w_codes
  rw [← List.take_append_drop 24 words1, List.all_append, w_t1, w_t2]
  rfl
set_option maxRecDepth 65536 in
theorem w_case : (Jvm.Cond.and given_1 narrow_1).before args0 about1 = true := by decide +kernel
theorem w_applies : (headSpec (Jvm.Cond.code x code maxLocals ret :: tables_1) room_1).applies x e0.platform about1 = true :=
  (Spec.applies_iff w_frames).mpr ⟨w_running, w_runnable, w_alone, w_named, w_hears, w_ripe, w_room, w_tables⟩
theorem atStart : AtStart classFile x code maxLocals ret World_1 tables_1 room_1 Calls_1 rest_1 Pre_1 launch0 p0 e0 about1 theMethod args0 below0 :=
  ⟨lists_1, trivial, launch0.admits_env _ _ _, launch0.least_env, fairChoices_fair.cas, fairChoices_fair.clock, w_frames, w_args, w_heap, w_applies, trivial, trivial, w_case⟩
end start1
theorem witness_1 : WitnessClaimed_1 := ⟨start1.p0, start1.e0, start1.about1, start1.theMethod, start1.args0, start1.below0, start1.atStart⟩
end Jvm.Pilot.@@N@@
