import JvmDerived
import JvmDerived.Pilot.@@N@@Statement
import JvmDerived.Pilot.@@N@@Code
set_option linter.unusedVariables false
set_option linter.unusedSimpArgs false
namespace Jvm.Pilot.@@N@@
open Jvm Jvm.ClassFile Sem Op Lib Jvm.Free Jvm.Stand Jvm.LawKit Jvm.RoadKit Bundle Jvm.Free.Fl Jvm.Pilot.@@N@@.Jvm.D
theorem own_w {a0 : Array Value} {Z : State} (hw : ∀ d ∈ tables_1, d.before a0 Z = true) (i : Nat) {d : Jvm.Cond} (h : tables_1[i]? = some d) : d.before a0 Z = true := hw _ (List.mem_of_getElem? h)
abbrev own_S (p : Program) (e : Env) (below : List Frame) (T : State) (m : MethodId) (pc : Nat) (Ls : Array Slot) (st : List Value) (t : State) : Prop := Steps p.tables e below (T.setTop (mkF m pc Ls st)) t
section Re
variable {tb : Tables} {e : Env} {below : List Frame} {T target : State} {m : MethodId} {pc : Nat} {Ls : Array Slot} {rest : List Value}
theorem reI {x y : Int32} (h : x = y) (k : Steps tb e below (T.setTop (mkF m pc Ls (.int y :: rest))) target) : Steps tb e below (T.setTop (mkF m pc Ls (.int x :: rest))) target := by rw [h]; exact k
theorem reJ {x y : Int64} (h : x = y) (k : Steps tb e below (T.setTop (mkF m pc Ls (.long y :: rest))) target) : Steps tb e below (T.setTop (mkF m pc Ls (.long x :: rest))) target := by rw [h]; exact k
theorem reD {x y : UInt64} (h : x = y) (k : Steps tb e below (T.setTop (mkF m pc Ls (.double y :: rest))) target) : Steps tb e below (T.setTop (mkF m pc Ls (.double x :: rest))) target := by rw [h]; exact k
theorem re2I {v : Value} {x y : Int32} (h : x = y) (k : Steps tb e below (T.setTop (mkF m pc Ls (v :: .int y :: rest))) target) : Steps tb e below (T.setTop (mkF m pc Ls (v :: .int x :: rest))) target := by rw [h]; exact k
theorem own_nnl {e v : UInt64} (h : e = v) (hv : NoNaN64 v) : NoNaN64 e := h ▸ hv
end Re
section OwnFloat
open Jvm.FP
/-- finite, and worth z units of 2^-1074 -/
def own_At (a : UInt64) (z : Int) : Prop := ∃ s c q, Core.val64 a = .fin s c q ∧ Core.signed s (Core.inUnits c q (-1074)) = z
/-- a magnitude that a double has exactly -/
def own_Rep (n : Nat) : Prop := ∃ m e : Nat, n = m * 2 ^ e ∧ m < 2 ^ 53 ∧ e ≤ 2045
theorem own_shift {A C a b a' b' : Nat} (h : A * 2 ^ a = C * 2 ^ b) (hab : a + b' = a' + b) : A * 2 ^ a' = C * 2 ^ b' := by
  have h1 : A * 2 ^ a' * 2 ^ b = C * 2 ^ b' * 2 ^ b := by
    calc A * 2 ^ a' * 2 ^ b = A * (2 ^ a' * 2 ^ b) := Nat.mul_assoc _ _ _
      _ = A * 2 ^ (a' + b) := by rw [Nat.pow_add]
      _ = A * 2 ^ (a + b') := by rw [hab]
      _ = A * 2 ^ a * 2 ^ b' := by rw [Nat.pow_add, Nat.mul_assoc]
      _ = C * 2 ^ b * 2 ^ b' := by rw [h]
      _ = C * 2 ^ b' * 2 ^ b := by rw [Nat.mul_assoc, Nat.mul_comm (2 ^ b), Nat.mul_assoc]
  exact Nat.eq_of_mul_eq_mul_right (Nat.two_pow_pos b) h1
theorem own_fit (s : Bool) {n : Nat} (h : own_Rep n) : ∃ c q, Core.fits Core.b64 (.fin s c q) ∧ Core.inUnits c q (-1074) = n := by
  obtain ⟨m, e, rfl, hm, he⟩ := h
  have h1 : Core.b64.qmin ≤ -1074 + (e : Int) := by rw [Core.qmin_b64]; omega
  have h2 : -1074 + (e : Int) ≤ Core.b64.qmax := by rw [show Core.b64.qmax = 971 by decide +kernel]; omega
  obtain ⟨c, q, hr, hu⟩ := Core.round_exact Core.good_b64 s (c := m) (q := -1074 + (e : Int)) hm h1 h2
  refine ⟨c, q, ?_, ?_⟩
  · rw [← hr]; exact Core.round_fits Core.good_b64 _
  · rw [Core.qmin_b64] at hu
    rw [hu]
    show m * 2 ^ (-1074 + (e : Int) - -1074).toNat = m * 2 ^ e
    congr 2
    omega
/-- rounding a ratio that a double has exactly -/
theorem own_rr {s : Bool} {A B n : Nat} {e : Int} (hB : 0 < B) (hn : own_Rep n) (h : A * 2 ^ (e + 1074).toNat = n * B * 2 ^ (-(e + 1074)).toNat) :
    ∃ c q, Core.roundRatio Core.b64 s A B e = .fin s c q ∧ Core.inUnits c q (-1074) = n := by
  obtain ⟨c, q, hf, hu⟩ := own_fit s hn
  refine ⟨c, q, Core.roundRatio_exact Core.good_b64 hB hf ?_, hu⟩
  have hq : -1074 ≤ q := by have := hf.2.1; rw [Core.qmin_b64] at this; exact this
  rw [← hu] at h
  unfold Core.inUnits at h
  have h' : A * 2 ^ (e + 1074).toNat = (c * B) * 2 ^ ((q - -1074).toNat + (-(e + 1074)).toNat) := by
    rw [h, Nat.pow_add]; simp only [Nat.mul_assoc, Nat.mul_left_comm, Nat.mul_comm]
  exact own_shift h' (by omega)
theorem own_at_fin {a : UInt64} {z : Int} (h : own_At a z) : Fin64 a := by
  obtain ⟨s, c, q, h, -⟩ := h
  exact fin64_core.mpr ⟨s, c, q, h⟩
theorem own_at_nn {a : UInt64} {z : Int} (h : own_At a z) : NoNaN64 a := (own_at_fin h).noNaN
theorem own_at_val {a : UInt64} {z : Int} (h : own_At a z) : Core.val64 a ≠ .nan ∧ Core.zval Core.b64 (Core.val64 a) = z := by
  obtain ⟨s, c, q, h, hz⟩ := h
  rw [h]
  refine ⟨nofun, ?_⟩
  show Core.signed s (Core.inUnits c q Core.b64.qmin) = z
  rw [Core.qmin_b64]; exact hz
theorem own_cmp {a b : UInt64} {x y : Int} (ha : own_At a x) (hb : own_At b y) : FP.dcmp a b = some (compare x y) := by
  have h1 := own_at_val ha; have h2 := own_at_val hb
  rw [← h1.2, ← h2.2]; exact Core.dcmp_zval h1.1 h2.1
theorem own_cmpV {a b : UInt64} {x y : Int} (ha : own_At a x) (hb : own_At b y) (o : CmpOp) : cmpValue (FP.dcmp a b) o = if x < y then -1 else if x = y then 0 else 1 := by
  rw [own_cmp ha hb]
  rcases Int.lt_trichotomy x y with h | h | h
  · rw [if_pos h, show compare x y = .lt from by simp [compare, compareOfLessAndEq, h]]; cases o <;> rfl
  · rw [if_neg (by omega), if_pos h, show compare x y = .eq from by subst h; simp [compare, compareOfLessAndEq]]; cases o <;> rfl
  · rw [if_neg (by omega), if_neg (by omega), show compare x y = .gt from by simp [compare, compareOfLessAndEq, show ¬ x < y by omega, show ¬ x = y by omega]]; cases o <;> rfl
theorem own_eqV {a b : UInt64} {x y : Int} (ha : own_At a x) (hb : own_At b y) (h : x = y) (o : CmpOp) : cmpValue (FP.dcmp a b) o = 0 := by
  rw [own_cmpV ha hb, if_neg (by omega), if_pos h]
theorem own_int {i : Int} {a : UInt64} (h : Core.DInt i a) : own_At a (i * (Core.one64 : Int)) := by
  have hz := Core.DInt_zval h
  unfold Core.DInt at h
  cases e : Core.val64 a with
  | nan => rw [e] at h; exact h.elim
  | inf s => rw [e] at h; exact h.elim
  | fin s c q =>
    refine ⟨s, c, q, e, ?_⟩
    rw [e] at hz
    rw [← hz]
    show _ = Core.signed s (Core.inUnits c q Core.b64.qmin)
    rw [Core.qmin_b64]
theorem own_dint_fin {i : Int} {a : UInt64} (h : Core.DInt i a) : Fin64 a := own_at_fin (own_int h)
theorem own_dint_nn {i : Int} {a : UInt64} (h : Core.DInt i a) : NoNaN64 a := (own_dint_fin h).noNaN
theorem own_icmp {a b : UInt64} {x y : Int} (ha : Core.DInt x a) (hb : Core.DInt y b) (o : CmpOp) : cmpValue (FP.dcmp a b) o = if x < y then -1 else if x = y then 0 else 1 := by
  rw [show FP.dcmp a b = some (compare x y) from Core.dcmp_int ha hb]
  rcases Int.lt_trichotomy x y with h | h | h
  · rw [if_pos h, show compare x y = .lt from by simp [compare, compareOfLessAndEq, h]]; cases o <;> rfl
  · rw [if_neg (by omega), if_pos h, show compare x y = .eq from by subst h; simp [compare, compareOfLessAndEq]]; cases o <;> rfl
  · rw [if_neg (by omega), if_neg (by omega), show compare x y = .gt from by simp [compare, compareOfLessAndEq, show ¬ x < y by omega, show ¬ x = y by omega]]; cases o <;> rfl
theorem own_ieq {a b : UInt64} {x y : Int} (ha : Core.DInt x a) (hb : Core.DInt y b) (h : x = y) (o : CmpOp) : cmpValue (FP.dcmp a b) o = 0 := by
  rw [own_icmp ha hb, if_neg (by omega), if_pos h]
/-- the quotient of two whole numbers, as one rounding of their ratio -/
theorem own_quot {i j : Int} {a b : UInt64} (ha : Core.DInt i a) (hb : Core.DInt j b) (hj : j ≠ 0) :
    ∃ s, Core.val64 (FP.ddiv a b) = Core.roundRatio Core.b64 s i.natAbs j.natAbs 0 ∧ (i ≠ 0 → s = (decide (i < 0) != decide (j < 0))) := by
  show ∃ s, Core.val64 (Core.ddiv a b) = _ ∧ _
  rw [Core.val64_ddiv]
  unfold Core.DInt at ha hb
  generalize Core.val64 a = x at ha
  generalize Core.val64 b = y at hb
  cases x with
  | nan => exact ha.elim
  | inf => exact ha.elim
  | fin s c q =>
  cases y with
  | nan => exact hb.elim
  | inf => exact hb.elim
  | fin t d r =>
    have hd : d ≠ 0 := fun h => hj ((Core.whole_zero hb).mp h)
    refine ⟨s != t, ?_, fun hi => by rw [Core.whole_sign ha hi, Core.whole_sign hb hj]⟩
    show (if d = 0 then _ else Core.roundRatio Core.b64 (s != t) c d (q - r)) = _
    rw [if_neg hd]
    refine Core.roundRatio_congr (by omega) (by omega) ?_
    have h1 := Core.whole_natAbs ha
    have h2 := Core.whole_natAbs hb
    have h3 : (c * j.natAbs) * 2 ^ (q.toNat + (-r).toNat) = (i.natAbs * d) * 2 ^ ((-q).toNat + r.toNat) := by
      calc (c * j.natAbs) * 2 ^ (q.toNat + (-r).toNat) = (c * 2 ^ q.toNat) * (j.natAbs * 2 ^ (-r).toNat) := by rw [Nat.pow_add]; simp only [Nat.mul_assoc, Nat.mul_left_comm, Nat.mul_comm]
        _ = (i.natAbs * 2 ^ (-q).toNat) * (d * 2 ^ r.toNat) := by rw [h1, h2]
        _ = (i.natAbs * d) * 2 ^ ((-q).toNat + r.toNat) := by rw [Nat.pow_add]; simp only [Nat.mul_assoc, Nat.mul_left_comm, Nat.mul_comm]
    exact own_shift h3 (by omega)
/-- a quotient that comes out whole -/
theorem own_ddiv {i j k : Int} {a b : UInt64} (ha : Core.DInt i a) (hb : Core.DInt j b) (hj : j ≠ 0) (hk : i = k * j) (hs : k.natAbs ≤ 2 ^ 53) : Core.DInt k (FP.ddiv a b) := by
  obtain ⟨s, hv, hsgn⟩ := own_quot ha hb hj
  unfold Core.DInt
  rw [hv]
  have hw : Core.Whole k (.fin s k.natAbs 0) := by
    show Core.signed s (k.natAbs * 2 ^ (0 : Int).toNat) = k * ((2 ^ (-(0 : Int)).toNat : Nat) : Int)
    by_cases h0 : k = 0
    · subst h0; simp [Core.signed]
    · have hi : i ≠ 0 := by rw [hk]; exact Int.mul_ne_zero h0 hj
      have hsk : s = decide (k < 0) := by
        rw [hsgn hi, hk]
        rcases Int.lt_or_gt_of_ne h0 with a1 | a1 <;> rcases Int.lt_or_gt_of_ne hj with a2 | a2
        · have := Int.mul_pos_of_neg_of_neg a1 a2; simp [show ¬ k * j < 0 by omega, a1, a2]
        · have := Int.mul_neg_of_neg_of_pos a1 a2; simp [this, a1, show ¬ j < 0 by omega]
        · have := Int.mul_neg_of_pos_of_neg a1 a2; simp [this, show ¬ k < 0 by omega, a2]
        · have := Int.mul_pos a1 a2; simp [show ¬ k * j < 0 by omega, show ¬ k < 0 by omega, show ¬ j < 0 by omega]
      rw [hsk]
      by_cases hn : k < 0
      · simp [Core.signed, hn]; omega
      · simp [Core.signed, hn]; omega
  have h1 : Core.roundRatio Core.b64 s i.natAbs j.natAbs 0 = Core.round Core.b64 (.fin s k.natAbs 0) := by
    show _ = Core.roundRatio Core.b64 s k.natAbs 1 0
    refine Core.roundRatio_congr (by omega) (by omega) ?_
    rw [hk, Int.natAbs_mul]; simp
  rw [h1]
  exact Core.whole_round Core.good_b64 Core.wide_b64 hs hw
theorem own_zv {s : Bool} {c : Nat} {q x : Int} (h : Core.signed s (Core.inUnits c q (-1074)) = x) : Core.zval Core.b64 (.fin s c q) = x := by
  show Core.signed s (Core.inUnits c q Core.b64.qmin) = x
  rw [Core.qmin_b64]; exact h
theorem own_sg {s : Bool} {k : Nat} {z : Int} (h : Core.signed s k = z) : Core.signed s z.natAbs = z := by rw [← h, Core.natAbs_signed]
theorem own_sum {a b : UInt64} {x y : Int} (ha : own_At a x) (hb : own_At b y) (hr : own_Rep (x + y).natAbs) : own_At (FP.dadd a b) (x + y) := by
  obtain ⟨s, c, q, ea, hx⟩ := ha
  obtain ⟨t, d, r, eb, hy⟩ := hb
  have fa := Core.val64_fits a; rw [ea] at fa
  have fb := Core.val64_fits b; rw [eb] at fb
  obtain ⟨sg, n, e, he, hq, hs⟩ := Core.sum_units fa fb
  rw [own_zv hx, own_zv hy, Core.qmin_b64] at hs
  rw [Core.qmin_b64] at hq
  have hn : n * 2 ^ (e + 1074).toNat = (x + y).natAbs := by
    rw [← hs, Core.natAbs_signed]; unfold Core.inUnits; congr 2
  obtain ⟨c', q', hr', hu⟩ := own_rr (s := sg) (A := n) (B := 1) (e := e) (by decide) hr (by rw [hn, show (-(e + 1074)).toNat = 0 by omega]; simp)
  refine ⟨sg, c', q', ?_, ?_⟩
  · show Core.val64 (Core.dadd a b) = _
    rw [Core.val64_dadd, ea, eb, he]; exact hr'
  · rw [hu]; exact own_sg hs
theorem own_neg {a : UInt64} {x : Int} (ha : own_At a x) : own_At (FP.dneg a) (-x) := by
  obtain ⟨s, c, q, ea, hx⟩ := ha
  refine ⟨!s, c, q, ?_, ?_⟩
  · rw [FP.val64_dneg, ea]; rfl
  · rw [← hx]; cases s <;> simp [Core.signed]
theorem own_sub {a b : UInt64} {x y : Int} (ha : own_At a x) (hb : own_At b y) (hr : own_Rep (x - y).natAbs) : own_At (FP.dsub a b) (x - y) := by
  obtain ⟨s, c, q, ea, hx⟩ := ha
  obtain ⟨t, d, r, eb, hy⟩ := hb
  have fa := Core.val64_fits a; rw [ea] at fa
  have fb := Core.val64_fits b; rw [eb] at fb
  have fb' : Core.fits Core.b64 (.fin (!t) d r) := fb
  have hy' : Core.signed (!t) (Core.inUnits d r (-1074)) = -y := by rw [← hy]; cases t <;> simp [Core.signed]
  obtain ⟨sg, n, e, he, hq, hs⟩ := Core.sum_units fa fb'
  rw [own_zv hx, own_zv hy', Core.qmin_b64, ← Int.sub_eq_add_neg] at hs
  rw [Core.qmin_b64] at hq
  have hn : n * 2 ^ (e + 1074).toNat = (x - y).natAbs := by
    rw [← hs, Core.natAbs_signed]; unfold Core.inUnits; congr 2
  obtain ⟨c', q', hr', hu⟩ := own_rr (s := sg) (A := n) (B := 1) (e := e) (by decide) hr (by rw [hn, show (-(e + 1074)).toNat = 0 by omega]; simp)
  refine ⟨sg, c', q', ?_, ?_⟩
  · show Core.val64 (Core.dsub a b) = _
    rw [Core.val64_dsub, ea, eb]
    show Core.round Core.b64 (Core.exactSum (.fin s c q) (.fin (!t) d r)) = _
    rw [he]; exact hr'
  · rw [hu]; exact own_sg hs
theorem own_mul {a b : UInt64} {x y z : Int} (ha : own_At a x) (hb : own_At b y) (hz : x * y = z * (Core.one64 : Int)) (hr : own_Rep z.natAbs) : own_At (FP.dmul a b) z := by
  obtain ⟨s, c, q, ea, hx⟩ := ha
  obtain ⟨t, d, r, eb, hy⟩ := hb
  have fa := Core.val64_fits a; rw [ea] at fa
  have fb := Core.val64_fits b; rw [eb] at fb
  obtain ⟨he, hq, hu⟩ := Core.product_units fa fb
  rw [Core.qmin_b64] at hq hu
  have hX : Core.zmag Core.b64 (.fin s c q) = x.natAbs := by
    rw [← hx, Core.natAbs_signed]; show Core.inUnits c q Core.b64.qmin = _; rw [Core.qmin_b64]
  have hY : Core.zmag Core.b64 (.fin t d r) = y.natAbs := by
    rw [← hy, Core.natAbs_signed]; show Core.inUnits d r Core.b64.qmin = _; rw [Core.qmin_b64]
  have hN : x.natAbs * y.natAbs = z.natAbs * 2 ^ 1074 := by
    have := congrArg Int.natAbs hz
    rw [Int.natAbs_mul, Int.natAbs_mul, Int.natAbs_natCast] at this
    exact this
  rw [hX, hY, hN] at hu
  have hu' : c * d * 2 ^ (q + r + 2148).toNat = z.natAbs * 2 ^ 1074 := by
    rw [← hu]; unfold Core.inUnits; congr 2
  obtain ⟨c', q', hr', hw⟩ := own_rr (s := s != t) (A := c * d) (B := 1) (e := q + r) (by decide) hr (by rw [Nat.mul_one]; exact own_shift hu' (by omega))
  refine ⟨s != t, c', q', ?_, ?_⟩
  · show Core.val64 (Core.dmul a b) = _
    rw [Core.val64_dmul, ea, eb, he]; exact hr'
  · rw [hw]
    have p : (Core.one64 : Int) ≠ 0 := by have := Core.one64_pos; omega
    refine Int.eq_of_mul_eq_mul_right p ?_
    rw [← hz, ← Core.signed_mul, show z.natAbs * Core.one64 = x.natAbs * y.natAbs from hN.symm, Core.signed_xor, own_sg hx, own_sg hy]
theorem own_div {a b : UInt64} {x y z : Int} (ha : own_At a x) (hb : own_At b y) (h0 : y ≠ 0) (hz : x * (Core.one64 : Int) = z * y) (hr : own_Rep z.natAbs) : own_At (FP.ddiv a b) z := by
  obtain ⟨s, c, q, ea, hx⟩ := ha
  obtain ⟨t, d, r, eb, hy⟩ := hb
  have fa := Core.val64_fits a; rw [ea] at fa
  have fb := Core.val64_fits b; rw [eb] at fb
  have hq : -1074 ≤ q := by have := fa.2.1; rw [Core.qmin_b64] at this; exact this
  have hq2 : -1074 ≤ r := by have := fb.2.1; rw [Core.qmin_b64] at this; exact this
  have hd : d ≠ 0 := fun h => h0 (by rw [← hy, h]; unfold Core.inUnits; rw [Nat.zero_mul]; exact Core.signed_zero t)
  have hX : c * 2 ^ (q + 1074).toNat = x.natAbs := by
    rw [← hx, Core.natAbs_signed]; unfold Core.inUnits; congr 2
  have hY : d * 2 ^ (r + 1074).toNat = y.natAbs := by
    rw [← hy, Core.natAbs_signed]; unfold Core.inUnits; congr 2
  have hN : x.natAbs * 2 ^ 1074 = z.natAbs * y.natAbs := by
    have := congrArg Int.natAbs hz
    rw [Int.natAbs_mul, Int.natAbs_mul, Int.natAbs_natCast] at this
    exact this
  have hu : c * 2 ^ ((q + 1074).toNat + 1074) = (z.natAbs * d) * 2 ^ (r + 1074).toNat := by
    rw [Nat.pow_add, ← Nat.mul_assoc, hX, hN, ← hY, Nat.mul_assoc]
  obtain ⟨c', q', hr', hw⟩ := own_rr (s := s != t) (A := c) (B := d) (e := q - r) (by omega) hr (own_shift hu (by omega))
  refine ⟨s != t, c', q', ?_, ?_⟩
  · show Core.val64 (Core.ddiv a b) = _
    rw [Core.val64_ddiv, ea, eb]
    show (if d = 0 then _ else Core.roundRatio Core.b64 (s != t) c d (q - r)) = _
    rw [if_neg hd]; exact hr'
  · rw [hw]
    refine Int.eq_of_mul_eq_mul_right h0 ?_
    have e1 : Core.signed (s != t) z.natAbs * Core.signed t y.natAbs = Core.signed s (z.natAbs * y.natAbs) := by
      rw [← Core.signed_xor, show ((s != t) != t) = s by cases s <;> cases t <;> rfl]
    rw [own_sg hy] at e1
    rw [e1, ← hz, ← hN, Core.signed_mul, own_sg hx]
    rfl
end OwnFloat
section OwnRel
open Jvm.FP
theorem own_ar {A B K : Nat} (h : B ≤ 2048) (h3 : A + 1 ≤ K) : A * 2048 ≤ K * 2048 - B := by omega
theorem own_zr {s : Bool} {A B n U : Nat} (hU : U = Core.one64) (hB : 0 < B) (hB2 : B ≤ 2048) (hn : n < 1048576) (h1 : n * B ≤ A) (h2 : A < (n + 1) * B) :
    ∃ c q, Core.roundRatio Core.b64 s A B 0 = .fin s c q ∧ n * U ≤ Core.inUnits c q (-1074) ∧ Core.inUnits c q (-1074) < (n + 1) * U := by
  obtain ⟨P, hP⟩ : ∃ P : Nat, P = 2 ^ 1063 := ⟨_, rfl⟩
  have hPp : 0 < P := by rw [hP]; exact Nat.two_pow_pos _
  have hp : U = 2048 * P := by
    rw [hU, hP]; unfold Core.one64
    rw [show (1074 : Nat) = 11 + 1063 from rfl, Nat.pow_add, show (2 : Nat) ^ 11 = 2048 from rfl]
  obtain ⟨c1, q1, f1, u1⟩ := own_fit s (n := n * U) ⟨n, 1074, by rw [hU]; rfl, by omega, by omega⟩
  obtain ⟨c2, q2, f2, u2⟩ := own_fit s (n := ((n + 1) * 2048 - 1) * P) ⟨(n + 1) * 2048 - 1, 1063, by rw [hP], by omega, by omega⟩
  have z1 : Core.zmag Core.b64 (.fin s c1 q1) = n * U := by
    show Core.inUnits c1 q1 Core.b64.qmin = _; rw [Core.qmin_b64]; exact u1
  have z2 : Core.zmag Core.b64 (.fin s c2 q2) = ((n + 1) * 2048 - 1) * P := by
    show Core.inUnits c2 q2 Core.b64.qmin = _; rw [Core.qmin_b64]; exact u2
  have hA : Core.inUnits A 0 Core.b64.qmin = A * U := by rw [Core.qmin_b64, hU]; rfl
  have e0 : (Core.b64.qmin - Core.b64.qmin).toNat = 0 := by rw [Int.sub_self]; rfl
  have g1 := Core.zmag_roundRatio_ge Core.good_b64 (s := s) (A := A) (B := B) (e := 0) (e0 := Core.b64.qmin) hB f1 (Int.le_refl _) (by rw [Core.qmin_b64]; decide) (by
    rw [z1, hA, e0, Nat.pow_zero, Nat.mul_one, Nat.mul_right_comm]
    exact Nat.mul_le_mul_right _ h1)
  have g2 := Core.zmag_roundRatio_le Core.good_b64 (s := s) (A := A) (B := B) (e := 0) (e0 := Core.b64.qmin) hB f2 nofun (Int.le_refl _) (by rw [Core.qmin_b64]; decide) (by
    rw [z2, hA, e0, Nat.pow_zero, Nat.mul_one, hp, ← Nat.mul_assoc, Nat.mul_right_comm ((n + 1) * 2048 - 1)]
    refine Nat.mul_le_mul_right _ ?_
    rw [Nat.sub_mul, Nat.one_mul, Nat.mul_right_comm]
    have h3 : A + 1 ≤ (n + 1) * B := h2
    exact own_ar hB2 h3)
  rw [z1] at g1
  rw [z2] at g2
  have top : ((n + 1) * 2048 - 1) * P < (n + 1) * U := by
    rw [hp, ← Nat.mul_assoc]
    exact Nat.mul_lt_mul_of_pos_right (by omega) hPp
  rcases Core.roundRatio_cases Core.b64 s A B 0 with ⟨c, q, h⟩ | h
  · rw [h] at g1 g2
    have zc : Core.zmag Core.b64 (.fin s c q) = Core.inUnits c q (-1074) := by
      show Core.inUnits c q Core.b64.qmin = _; rw [Core.qmin_b64]
    rw [zc] at g1 g2
    exact ⟨c, q, h, g1, Nat.lt_of_le_of_lt g2 top⟩
  · exfalso
    have this : Core.zmag Core.b64 (.fin s c2 q2) < _ := Core.zmag_lt_top Core.good_b64 f2
    rw [h] at g2
    rw [z2] at this
    have hi : Core.zmag Core.b64 (.inf s) = Core.b64.tails * 2 ^ (Core.b64.exps - 2) := rfl
    rw [hi] at g2
    omega
theorem own_rel {i j : Int} {a b : UInt64} (ha : Core.DInt i a) (hb : Core.DInt j b) (hj : 0 < j) (hj2 : j ≤ 2000) (h1 : -1000001 < i) (h2 : i < 1000001) :
    ∃ z : Int, own_At (FP.ddiv a b) z ∧ (0 ≤ i → i / j * (Core.one64 : Int) ≤ z ∧ z < (i / j + 1) * (Core.one64 : Int)) ∧ (i < 0 → (-((-i) / j) - 1) * (Core.one64 : Int) < z ∧ z ≤ (-((-i) / j)) * (Core.one64 : Int)) := by
  obtain ⟨U, hU⟩ : ∃ U, U = Core.one64 := ⟨_, rfl⟩
  rw [← hU]
  obtain ⟨s, hv, hs⟩ := own_quot ha hb (by omega)
  have hA : i.natAbs / j.natAbs < 1048576 := Nat.lt_of_le_of_lt (Nat.div_le_self _ _) (by omega)
  obtain ⟨c, q, hr, g1, g2⟩ := own_zr hU (s := s) (A := i.natAbs) (B := j.natAbs) (n := i.natAbs / j.natAbs) (by omega) (by omega) hA (Nat.div_mul_le_self _ _) (Nat.lt_mul_of_div_lt (Nat.lt_succ_self _) (by omega))
  refine ⟨_, ⟨s, c, q, hv.trans hr, rfl⟩, fun h0 => ?_, fun h0 => ?_⟩
  · have e : ((i.natAbs / j.natAbs : Nat) : Int) = i / j := by
      rw [Int.natCast_ediv, Int.natAbs_of_nonneg h0, Int.natAbs_of_nonneg (by omega)]
    have g1' : i / j * (U : Int) ≤ (Core.inUnits c q (-1074) : Nat) := by rw [← e]; have := Int.ofNat_le.mpr g1; rw [Int.natCast_mul] at this; exact this
    have g2' : ((Core.inUnits c q (-1074) : Nat) : Int) < (i / j + 1) * (U : Int) := by rw [← e]; have := Int.ofNat_lt.mpr g2; rw [Int.natCast_mul, Int.natCast_add] at this; exact this
    by_cases hz : i = 0
    · subst hz
      have hA0 : Core.roundRatio Core.b64 s 0 j.natAbs 0 = .fin s 0 Core.b64.qmin := by unfold Core.roundRatio; rfl
      have : Core.Datum.fin s c q = .fin s 0 Core.b64.qmin := by rw [← hr]; exact hA0
      cases this
      have zz : Core.inUnits 0 Core.b64.qmin (-1074) = 0 := by unfold Core.inUnits; rw [Nat.zero_mul]
      rw [zz] at g1' g2' ⊢
      rw [Core.signed_zero]
      exact ⟨g1', g2'⟩
    · rw [hs hz]
      simp only [show ¬ i < 0 by omega, show ¬ j < 0 by omega, decide_false, bne_self_eq_false, Core.signed, Bool.false_eq_true, if_false]
      exact ⟨g1', g2'⟩
  · have e : ((i.natAbs / j.natAbs : Nat) : Int) = (-i) / j := by
      rw [Int.natCast_ediv, Int.natAbs_of_nonneg (show 0 ≤ j by omega), show (i.natAbs : Int) = -i by omega]
    have g1' : (-i) / j * (U : Int) ≤ (Core.inUnits c q (-1074) : Nat) := by rw [← e]; have := Int.ofNat_le.mpr g1; rw [Int.natCast_mul] at this; exact this
    have g2' : ((Core.inUnits c q (-1074) : Nat) : Int) < ((-i) / j + 1) * (U : Int) := by rw [← e]; have := Int.ofNat_lt.mpr g2; rw [Int.natCast_mul, Int.natCast_add] at this; exact this
    rw [hs (by omega)]
    simp only [h0, show ¬ j < 0 by omega, decide_true, decide_false, Core.signed]
    simp only [bne_iff_ne, ne_eq, Bool.true_eq_false, not_false_eq_true, if_true]
    refine ⟨?_, ?_⟩
    · rw [show (-((-i) / j) - 1) = -((-i) / j + 1) by omega, Int.neg_mul]; omega
    · rw [Int.neg_mul]; omega
end OwnRel
theorem d1_0 : decode prog_23_method_7_code 0 = .ok (.dload_n 2, 1) := by decide +kernel
theorem d1_1 : decode prog_23_method_7_code 1 = .ok (.dconst 0, 1) := by decide +kernel
theorem d1_2 : decode prog_23_method_7_code 2 = .ok (.dcmp .l, 1) := by decide +kernel
theorem d1_3 : decode prog_23_method_7_code 3 = .ok (.ifCond .le 9, 3) := by decide +kernel
theorem d1_6 : decode prog_23_method_7_code 6 = .ok (.dload_n 0, 1) := by decide +kernel
theorem d1_7 : decode prog_23_method_7_code 7 = .ok (.dload_n 2, 1) := by decide +kernel
theorem d1_8 : decode prog_23_method_7_code 8 = .ok (.ddiv, 1) := by decide +kernel
theorem d1_9 : decode prog_23_method_7_code 9 = .ok (.goto 4, 3) := by decide +kernel
theorem d1_13 : decode prog_23_method_7_code 13 = .ok (.dreturn, 1) := by decide +kernel
theorem pn0 : plainName "com/example/winnower/winnower/core/Reduction" = true := by first | (simp [plainName, overriddenIn]; done) | decide +kernel
theorem ef1p (m : MethodId) (d0 : UInt64) (d1 : UInt64) : entryFrame m #[(.double d0), (.double d1)] 4 = mkF m 0 #[.val (.double d0), .second, .val (.double d1), .second] [] := by first | (simp [entryFrame, mkF, argsToLocals, Value.category]; done) | rfl
def Q1p (Z : State) (d0 : UInt64) (d1 : UInt64) (r : UInt64) (h0 : Heap) (n0 : Nat) (v : Option Value) (h : Heap) (L : List Loc) : Prop := v = some (.double r) ∧ Fr n0 L ∧ (h = h0)
set_option maxRecDepth 65536 in
set_option maxHeartbeats 40000000 in
theorem rm1p (l : Launch) (Z : State) (a0 : Array Value) (hw : ∀ d ∈ tables_1, d.before a0 Z = true) (ws : List Jvm.Cond) (d0 : UInt64) (d1 : UInt64) (r : UInt64) (h0 : Heap) (n0 : Nat) (Z0 : n0 ≤ h0.size) (hgt : cmpValue (FP.dcmp d1 0) .l = 1) (hv : FP.ddiv d0 d1 = r) (hn : NoNaN64 (FP.ddiv d0 d1)) :
    MetFree l (⟨"com/example/winnower/winnower/core/Reduction", "relative", "(DD)D"⟩ : MethodName) (head1 (Jvm.Cond.code (⟨"com/example/winnower/winnower/core/Reduction", "relative", "(DD)D"⟩ : MethodName) prog_23_method_7_code 4 (some .double) :: ws) ({ frames := 0, cells := 0, slots := 0, locals := 0 } : Room)) (fun a U => a = #[(.double d0), (.double d1)] ∧ Z.Warmed39 U.vm ∧ U.heap = h0) (fun _ _ _ _ _ => True) (fun _ U o U' => ∃ v L, o = .returned v ∧ Q1p Z d0 d1 r h0 n0 v U'.heap L ∧ FrameEnd U o U' L ({ frames := 0, cells := 0, slots := 0, locals := 0 } : Room).cells ({ frames := 0, cells := 0, slots := 0, locals := 0 } : Room).slots) := by
  refine MetFree.of_bodySF (plainFor_of_name pn0) hisR ?_
  intro p e s m args below meth c s₁ Bd hml0 hP hK
  obtain ⟨rfl, hZ, hh⟩ := hP
  have hx := Bd.exec
  have hby := Bd.bytes
  have hml : c.maxLocals = 4 := hml0
  have hown : s.vm.findClass "com/example/winnower/winnower/core/Reduction" = some m.cls := findClass_of_methodNamed Bd.named
  have hnm := (name_of_methodNamed Bd.named Bd.method).1
  have X0 : Stand p l e ({ frames := 0, cells := 0, slots := 0, locals := 0 } : Room) s m #[(.double d0), (.double d1)] below meth c s₁ [] 0 0 := Stand.of_body Bd
  have e0 : s₁.heap = h0 := by rw [← hh, Bd.state]; rfl
  have N0 := Fr.nil n0
  have pre0 : ∀ t, Steps p.tables e below (s₁.setTop (mkF m 0 #[.val (.double d0), .second, .val (.double d1), .second] [])) t → Steps p.tables e below (s₁.setTop (entryFrame m #[(.double d0), (.double d1)] 4)) t := fun t k => castTop (ef1p m d0 d1) k
  obtain ⟨fs, hr, hrun, hended, hW, hsame⟩ := X0.leave (v := some (.double r)) (fun h => by rw [Bd.returns] at h; cases h)
  refine ⟨_, _, pre0 _ ?_, hrun, hended, _, _, rfl, ?_, ⟨_, rfl⟩, hW, hsame.mono (by decide) (by decide)⟩
  · show own_S p e below s₁ m 0 #[.val (.double d0), .second, .val (.double d1), .second] [] _
    refine XS.dloadN X0.here hx rfl (hb hby d1_0) rfl ?_
    show own_S p e below s₁ m 1 #[.val (.double d0), .second, .val (.double d1), .second] [(.double d1)] _
    refine XS.dconst0 X0.here hx rfl (v := 0) (hb hby d1_1) rfl ?_
    show own_S p e below s₁ m 2 #[.val (.double d0), .second, .val (.double d1), .second] [(.double 0), (.double d1)] _
    refine XS.dcmpS X0.here hx rfl (v := (1 : Int32)) (hb hby d1_2) rfl hgt ?_
    show own_S p e below s₁ m 3 #[.val (.double d0), .second, .val (.double d1), .second] [(.int 1)] _
    refine XS.ifNo X0.here hx rfl (hb hby d1_3) rfl ((if0 _ _).trans (tlt (by decide : (0 : Int32) < (1 : Int32))).2.2.2) ?_
    show own_S p e below s₁ m 6 #[.val (.double d0), .second, .val (.double d1), .second] [] _
    refine XS.dloadN X0.here hx rfl (hb hby d1_6) rfl ?_
    show own_S p e below s₁ m 7 #[.val (.double d0), .second, .val (.double d1), .second] [(.double d0)] _
    refine XS.dloadN X0.here hx rfl (hb hby d1_7) rfl ?_
    show own_S p e below s₁ m 8 #[.val (.double d0), .second, .val (.double d1), .second] [(.double d1), (.double d0)] _
    refine XS.ddivS X0.here hx rfl (v := r) (hb hby d1_8) rfl hn hv ?_
    show own_S p e below s₁ m 9 #[.val (.double d0), .second, .val (.double d1), .second] [(.double r)] _
    refine XS.goto X0.here hx rfl (pc0 := 9) (pc' := 13) rfl (hb hby d1_9) (by decide) (by decide) ?_
    show own_S p e below s₁ m 13 #[.val (.double d0), .second, .val (.double d1), .second] [(.double r)] _
    exact retOut X0 hx Bd.returns rfl (Or.inr (Or.inr (Or.inl ⟨rfl, rfl, _, rfl⟩))) (hb hby d1_13) hr
  · show Q1p Z d0 d1 r h0 n0 _ s₁.heap _
    rw [e0]
    exact ⟨rfl, N0, rfl⟩
theorem d1_12 : decode prog_23_method_7_code 12 = .ok (.dconst 0, 1) := by decide +kernel
theorem ef1z (m : MethodId) (d0 : UInt64) (d1 : UInt64) : entryFrame m #[(.double d0), (.double d1)] 4 = mkF m 0 #[.val (.double d0), .second, .val (.double d1), .second] [] := by first | (simp [entryFrame, mkF, argsToLocals, Value.category]; done) | rfl
def Q1z (Z : State) (d0 : UInt64) (d1 : UInt64) (h0 : Heap) (n0 : Nat) (v : Option Value) (h : Heap) (L : List Loc) : Prop := v = some (.double 0) ∧ Fr n0 L ∧ (h = h0)
set_option maxRecDepth 65536 in
set_option maxHeartbeats 40000000 in
theorem rm1z (l : Launch) (Z : State) (a0 : Array Value) (hw : ∀ d ∈ tables_1, d.before a0 Z = true) (ws : List Jvm.Cond) (d0 : UInt64) (d1 : UInt64) (h0 : Heap) (n0 : Nat) (Z0 : n0 ≤ h0.size) (hle : ¬ ((0 : Int32) < (cmpValue (FP.dcmp d1 (0 : UInt64)) .l))) :
    MetFree l (⟨"com/example/winnower/winnower/core/Reduction", "relative", "(DD)D"⟩ : MethodName) (head1 (Jvm.Cond.code (⟨"com/example/winnower/winnower/core/Reduction", "relative", "(DD)D"⟩ : MethodName) prog_23_method_7_code 4 (some .double) :: ws) ({ frames := 0, cells := 0, slots := 0, locals := 0 } : Room)) (fun a U => a = #[(.double d0), (.double d1)] ∧ Z.Warmed39 U.vm ∧ U.heap = h0) (fun _ _ _ _ _ => True) (fun _ U o U' => ∃ v L, o = .returned v ∧ Q1z Z d0 d1 h0 n0 v U'.heap L ∧ FrameEnd U o U' L ({ frames := 0, cells := 0, slots := 0, locals := 0 } : Room).cells ({ frames := 0, cells := 0, slots := 0, locals := 0 } : Room).slots) := by
  refine MetFree.of_bodySF (plainFor_of_name pn0) hisR ?_
  intro p e s m args below meth c s₁ Bd hml0 hP hK
  obtain ⟨rfl, hZ, hh⟩ := hP
  have hx := Bd.exec
  have hby := Bd.bytes
  have hml : c.maxLocals = 4 := hml0
  have hown : s.vm.findClass "com/example/winnower/winnower/core/Reduction" = some m.cls := findClass_of_methodNamed Bd.named
  have hnm := (name_of_methodNamed Bd.named Bd.method).1
  have X0 : Stand p l e ({ frames := 0, cells := 0, slots := 0, locals := 0 } : Room) s m #[(.double d0), (.double d1)] below meth c s₁ [] 0 0 := Stand.of_body Bd
  have e0 : s₁.heap = h0 := by rw [← hh, Bd.state]; rfl
  have N0 := Fr.nil n0
  have pre0 : ∀ t, Steps p.tables e below (s₁.setTop (mkF m 0 #[.val (.double d0), .second, .val (.double d1), .second] [])) t → Steps p.tables e below (s₁.setTop (entryFrame m #[(.double d0), (.double d1)] 4)) t := fun t k => castTop (ef1z m d0 d1) k
  obtain ⟨fs, hr, hrun, hended, hW, hsame⟩ := X0.leave (v := some (.double 0)) (fun h => by rw [Bd.returns] at h; cases h)
  refine ⟨_, _, pre0 _ ?_, hrun, hended, _, _, rfl, ?_, ⟨_, rfl⟩, hW, hsame.mono (by decide) (by decide)⟩
  · show own_S p e below s₁ m 0 #[.val (.double d0), .second, .val (.double d1), .second] [] _
    refine XS.dloadN X0.here hx rfl (hb hby d1_0) rfl ?_
    show own_S p e below s₁ m 1 #[.val (.double d0), .second, .val (.double d1), .second] [(.double d1)] _
    refine XS.dconst0 X0.here hx rfl (v := 0) (hb hby d1_1) rfl ?_
    show own_S p e below s₁ m 2 #[.val (.double d0), .second, .val (.double d1), .second] [(.double 0), (.double d1)] _
    refine XS.dcmpS X0.here hx rfl (v := (cmpValue (FP.dcmp d1 (0 : UInt64)) .l)) (hb hby d1_2) rfl rfl ?_
    show own_S p e below s₁ m 3 #[.val (.double d0), .second, .val (.double d1), .second] [(.int (cmpValue (FP.dcmp d1 (0 : UInt64)) .l))] _
    refine XS.ifYes X0.here hx rfl (pc0 := 3) (pc' := 12) rfl (hb hby d1_3) rfl ((if0 _ _).trans (flt (hle : ¬ ((0 : Int32) < (cmpValue (FP.dcmp d1 (0 : UInt64)) .l)))).2.2.2) (by decide) (by decide) ?_
    show own_S p e below s₁ m 12 #[.val (.double d0), .second, .val (.double d1), .second] [] _
    refine XS.dconst0 X0.here hx rfl (v := 0) (hb hby d1_12) rfl ?_
    show own_S p e below s₁ m 13 #[.val (.double d0), .second, .val (.double d1), .second] [(.double 0)] _
    exact retOut X0 hx Bd.returns rfl (Or.inr (Or.inr (Or.inl ⟨rfl, rfl, _, rfl⟩))) (hb hby d1_13) hr
  · show Q1z Z d0 d1 h0 n0 _ s₁.heap _
    rw [e0]
    exact ⟨rfl, N0, rfl⟩
theorem own_D0 : FP.Core.DInt 0 (0 : UInt64) := by
  have h := FP.Core.i2d_int (0 : Int32)
  rw [show FP.Core.i2d 0 = 0 by decide +kernel] at h
  exact h
theorem own_rng {x z m : Int32} (h : z = x % m) {M : Int} (hm : m.toInt = M) (hM : 0 < M) : -M < z.toInt ∧ z.toInt < M := by
  have q := c_irem x m M hm
  rcases (by omega : x.toInt < 0 ∨ 0 ≤ x.toInt) with a | a
  · have := q.2 a; rw [← h] at this
    have b1 := Int.emod_nonneg (-x.toInt) (show M ≠ 0 by omega); have b2 := Int.emod_lt_of_pos (-x.toInt) hM
    omega
  · have := q.1 a; rw [← h] at this
    have b1 := Int.emod_nonneg x.toInt (show M ≠ 0 by omega); have b2 := Int.emod_lt_of_pos x.toInt hM
    omega
theorem pd0 : parseMethodDescriptor "(DD)D" = some ⟨[.double, .double], some .double⟩ := by decide +kernel
theorem pn1 : plainName "com/example/winnower/winnower/core/ReductionRelativePinLaw" = true := by first | (simp [plainName, overriddenIn]; done) | decide +kernel
theorem efm0 (m : MethodId) (p0 : Int32) (p1 : Int32) (p2 : Int32) : entryFrame m #[(.int p0), (.int p1), (.int p2)] maxLocals = mkF m 0 #[.val (.int p0), .val (.int p1), .val (.int p2), .unset, .unset, .unset, .unset, .unset, .unset, .unset, .unset] [] := by first | (simp [entryFrame, mkF, argsToLocals, Value.category, maxLocals]; done) | rfl
def Qm0 (Z : State) (p0 : Int32) (p1 : Int32) (p2 : Int32) (h0 : Heap) (n0 : Nat) (v : Option Value) (h : Heap) (L : List Loc) : Prop := v = some (.int 1) ∧ Fr n0 L
set_option maxRecDepth 65536 in
set_option maxHeartbeats 40000000 in
theorem rmm0 (l : Launch) (Z : State) (a0 : Array Value) (hw : ∀ d ∈ tables_1, d.before a0 Z = true) (ws : List Jvm.Cond) (p0 : Int32) (p1 : Int32) (p2 : Int32) (h0 : Heap) (n0 : Nat) (Z0 : n0 ≤ h0.size)  :
    MetFree l x (head1 (Jvm.Cond.code x code maxLocals ret :: ws) room_1) (fun a U => a = #[(.int p0), (.int p1), (.int p2)] ∧ Z.Warmed39 U.vm ∧ U.heap = h0) (fun _ _ _ _ _ => True) (fun _ U o U' => ∃ v L, o = .returned v ∧ Qm0 Z p0 p1 p2 h0 n0 v U'.heap L ∧ FrameEnd U o U' L room_1.cells room_1.slots) := by
  refine MetFree.of_bodySF (plainFor_of_name pn1) hisR ?_
  intro p e s m args below meth c s₁ Bd hml0 hP hK
  obtain ⟨rfl, hZ, hh⟩ := hP
  have hx := Bd.exec
  have hby := Bd.bytes
  have hml : c.maxLocals = 11 := hml0
  have hown : s.vm.findClass "com/example/winnower/winnower/core/ReductionRelativePinLaw" = some m.cls := findClass_of_methodNamed Bd.named
  have hnm := (name_of_methodNamed Bd.named Bd.method).1
  have X0 : Stand p l e room_1 s m #[(.int p0), (.int p1), (.int p2)] below meth c s₁ [] 0 0 := Stand.of_body Bd
  have e0 : s₁.heap = h0 := by rw [← hh, Bd.state]; rfl
  have N0 := Fr.nil n0
  have pre0 : ∀ t, Steps p.tables e below (s₁.setTop (mkF m 0 #[.val (.int p0), .val (.int p1), .val (.int p2), .unset, .unset, .unset, .unset, .unset, .unset, .unset, .unset] [])) t → Steps p.tables e below (s₁.setTop (entryFrame m #[(.int p0), (.int p1), (.int p2)] maxLocals)) t := fun t k => castTop (efm0 m p0 p1 p2) k
  obtain ⟨ss, hss⟩ : ∃ z, z = p1 % (2001 : Int32) := ⟨_, rfl⟩
  obtain ⟨qq, hqq⟩ : ∃ z, z = p0 % (1001 : Int32) := ⟨_, rfl⟩
  obtain ⟨ee, hee⟩ : ∃ z, z = p2 % (1000001 : Int32) := ⟨_, rfl⟩
  have bs := own_rng hss (by decide : (2001 : Int32).toInt = 2001) (by decide)
  have bq := own_rng hqq (by decide : (1001 : Int32).toInt = 1001) (by decide)
  have be := own_rng hee (by decide : (1000001 : Int32).toInt = 1000001) (by decide)
  have Ds := FP.Core.i2d_int ss
  have De := FP.Core.i2d_int ee
  have Dq := FP.Core.i2d_int qq
  have Dz : FP.Core.DInt 0 (0 : UInt64) := own_D0
  have pre101 : ∀ t, Steps p.tables e below (s₁.setTop (mkF m 19 #[.val (.int p0), .val (.int p1), .val (.int p2), .val (.int ss), .val (.int qq), .val (.int ee), .unset, .unset, .unset, .unset, .unset] [])) t → Steps p.tables e below (s₁.setTop (mkF m 0 #[.val (.int p0), .val (.int p1), .val (.int p2), .unset, .unset, .unset, .unset, .unset, .unset, .unset, .unset] [])) t := by
    intro t kt
    show own_S p e below s₁ m 0 #[.val (.int p0), .val (.int p1), .val (.int p2), .unset, .unset, .unset, .unset, .unset, .unset, .unset, .unset] [] _
    refine XS.iloadN X0.here hx rfl (hb hby at_0) rfl ?_
    show own_S p e below s₁ m 1 #[.val (.int p0), .val (.int p1), .val (.int p2), .unset, .unset, .unset, .unset, .unset, .unset, .unset, .unset] [(.int p1)] _
    refine XS.sipush X0.here hx rfl (hb hby at_1) ?_
    show own_S p e below s₁ m 4 #[.val (.int p0), .val (.int p1), .val (.int p2), .unset, .unset, .unset, .unset, .unset, .unset, .unset, .unset] [(.int 2001), (.int p1)] _
    refine iremM (g := (mkF m 4 #[.val (.int p0), .val (.int p1), .val (.int p2), .unset, .unset, .unset, .unset, .unset, .unset, .unset, .unset] [(.int 2001), (.int p1)])) X0 hx rfl (hb hby at_4) rfl (by decide) ?_
    show own_S p e below s₁ m 5 #[.val (.int p0), .val (.int p1), .val (.int p2), .unset, .unset, .unset, .unset, .unset, .unset, .unset, .unset] [(.int (p1 % (2001 : Int32)))] _
    refine reI (hss.symm : (p1 % (2001 : Int32)) = ss) ?_
    show own_S p e below s₁ m 5 #[.val (.int p0), .val (.int p1), .val (.int p2), .unset, .unset, .unset, .unset, .unset, .unset, .unset, .unset] [(.int ss)] _
    refine XS.istoreN X0.here hx rfl (hb hby at_5) rfl (l' := #[.val (.int p0), .val (.int p1), .val (.int p2), .val (.int ss), .unset, .unset, .unset, .unset, .unset, .unset, .unset]) rfl ?_
    show own_S p e below s₁ m 6 #[.val (.int p0), .val (.int p1), .val (.int p2), .val (.int ss), .unset, .unset, .unset, .unset, .unset, .unset, .unset] [] _
    refine XS.iloadN X0.here hx rfl (hb hby at_6) rfl ?_
    show own_S p e below s₁ m 7 #[.val (.int p0), .val (.int p1), .val (.int p2), .val (.int ss), .unset, .unset, .unset, .unset, .unset, .unset, .unset] [(.int p0)] _
    refine XS.sipush X0.here hx rfl (hb hby at_7) ?_
    show own_S p e below s₁ m 10 #[.val (.int p0), .val (.int p1), .val (.int p2), .val (.int ss), .unset, .unset, .unset, .unset, .unset, .unset, .unset] [(.int 1001), (.int p0)] _
    refine iremM (g := (mkF m 10 #[.val (.int p0), .val (.int p1), .val (.int p2), .val (.int ss), .unset, .unset, .unset, .unset, .unset, .unset, .unset] [(.int 1001), (.int p0)])) X0 hx rfl (hb hby at_10) rfl (by decide) ?_
    show own_S p e below s₁ m 11 #[.val (.int p0), .val (.int p1), .val (.int p2), .val (.int ss), .unset, .unset, .unset, .unset, .unset, .unset, .unset] [(.int (p0 % (1001 : Int32)))] _
    refine reI (hqq.symm : (p0 % (1001 : Int32)) = qq) ?_
    show own_S p e below s₁ m 11 #[.val (.int p0), .val (.int p1), .val (.int p2), .val (.int ss), .unset, .unset, .unset, .unset, .unset, .unset, .unset] [(.int qq)] _
    refine XS.istore X0.here hx rfl (hb hby at_11) rfl (l' := #[.val (.int p0), .val (.int p1), .val (.int p2), .val (.int ss), .val (.int qq), .unset, .unset, .unset, .unset, .unset, .unset]) rfl ?_
    show own_S p e below s₁ m 13 #[.val (.int p0), .val (.int p1), .val (.int p2), .val (.int ss), .val (.int qq), .unset, .unset, .unset, .unset, .unset, .unset] [] _
    refine XS.iloadN X0.here hx rfl (hb hby at_13) rfl ?_
    show own_S p e below s₁ m 14 #[.val (.int p0), .val (.int p1), .val (.int p2), .val (.int ss), .val (.int qq), .unset, .unset, .unset, .unset, .unset, .unset] [(.int p2)] _
    refine X0.ldcInt hx hown (mvT hZ (own_w hw 0 rfl)) (g := (mkF m 14 #[.val (.int p0), .val (.int p1), .val (.int p2), .val (.int ss), .val (.int qq), .unset, .unset, .unset, .unset, .unset, .unset] [(.int p2)])) rfl (hb hby at_14) _ ?_
    show own_S p e below s₁ m 16 #[.val (.int p0), .val (.int p1), .val (.int p2), .val (.int ss), .val (.int qq), .unset, .unset, .unset, .unset, .unset, .unset] [(.int 1000001), (.int p2)] _
    refine iremM (g := (mkF m 16 #[.val (.int p0), .val (.int p1), .val (.int p2), .val (.int ss), .val (.int qq), .unset, .unset, .unset, .unset, .unset, .unset] [(.int 1000001), (.int p2)])) X0 hx rfl (hb hby at_16) rfl (by decide) ?_
    show own_S p e below s₁ m 17 #[.val (.int p0), .val (.int p1), .val (.int p2), .val (.int ss), .val (.int qq), .unset, .unset, .unset, .unset, .unset, .unset] [(.int (p2 % (1000001 : Int32)))] _
    refine reI (hee.symm : (p2 % (1000001 : Int32)) = ee) ?_
    show own_S p e below s₁ m 17 #[.val (.int p0), .val (.int p1), .val (.int p2), .val (.int ss), .val (.int qq), .unset, .unset, .unset, .unset, .unset, .unset] [(.int ee)] _
    refine XS.istore X0.here hx rfl (hb hby at_17) rfl (l' := #[.val (.int p0), .val (.int p1), .val (.int p2), .val (.int ss), .val (.int qq), .val (.int ee), .unset, .unset, .unset, .unset, .unset]) rfl ?_
    exact kt
  by_cases hs : (0 : Int32) < ss
  · skip
    have hsI : 0 < ss.toInt := Int32.lt_iff_toInt_lt.mp hs
    have hgt0 : cmpValue (FP.dcmp (FP.i2d ss) 0) .l = 1 := by rw [own_icmp Ds Dz, if_neg (by omega), if_neg (by omega)]
    have hm : (qq * ss).toInt = qq.toInt * ss.toInt := by
      have hb : (qq.toInt * ss.toInt).natAbs ≤ 1000 * 2000 := by rw [Int.natAbs_mul]; exact Nat.mul_le_mul (by omega) (by omega)
      rw [Int32.toInt_mul]; exact Int.bmod_eq_of_le (by omega) (by omega)
    have D1 : FP.Core.DInt qq.toInt (FP.ddiv (FP.i2d (qq * ss)) (FP.i2d ss)) := own_ddiv (FP.Core.i2d_int (qq * ss)) Ds (by omega) hm (by omega)
    obtain ⟨z, hz, hzp, hzn⟩ := own_rel De Ds hsI (by omega) (by omega) (by omega)
    have hnz : ss ≠ 0 := fun q => by rw [q] at hs; exact absurd hs (by decide)
    have hone : (0 : Int) < (FP.Core.one64 : Int) := by have := FP.Core.one64_pos; omega
    have hm1 : ss ≠ -1 := fun q => by rw [q] at hs; exact absurd hs (by decide)
    have hdv := c_idiv ee ss ss.toInt rfl hm1
    obtain ⟨_, _, ⟨T102, L102, k102, n102⟩, -, X102, ⟨Lc102, hQ102, l102, y102, z102⟩, st102⟩ := Jvm.LawKit.callS X0 hx (y := (⟨"com/example/winnower/winnower/core/Reduction", "relative", "(DD)D"⟩ : MethodName)) hown (mvT hZ (own_w hw 1 rfl)) (mvT hZ (own_w hw 2 rfl)) (mvT hZ (own_w hw 3 rfl)) (mvT hZ (own_w hw 4 rfl)) (by decide) (backOf (W := 0) (rm1p l Z a0 hw [] (FP.i2d (qq * ss)) (FP.i2d ss) (FP.ddiv (FP.i2d (qq * ss)) (FP.i2d ss)) h0 n0 Z0 hgt0 rfl (own_dint_nn D1)) hZ (own_w hw 4 rfl) (own_w hw 3 rfl) (by decide) (by decide)) (g := (mkF m 26 #[.val (.int p0), .val (.int p1), .val (.int p2), .val (.int ss), .val (.int qq), .val (.int ee), .unset, .unset, .unset, .unset, .unset] [(.double (FP.i2d ss)), (.double (FP.i2d (qq * ss)))])) rfl (by rw [hml]; rfl) (argsL := [(.double (FP.i2d (qq * ss))), (.double (FP.i2d ss))]) (rest := []) (lenOf pd0 rfl) rfl (by show 2 * 0 + _ ≤ _; exact Nat.le_of_eq rfl) (hb hby at_26) (fun _ _ => ⟨rfl, e0, (by decide : 0 + 0 ≤ _), (by decide : 0 + 0 ≤ _)⟩)
    dsimp only [Pt.U, Pt.locs, Pt.cells, Pt.slots] at X102 l102 y102 z102 st102 hQ102
    subst l102 y102 z102
    obtain ⟨rfl, Nq102, P102_0⟩ := hQ102
    have N102 := Fr.app N0 Nq102
    obtain ⟨_, _, ⟨T103, L103, k103, n103⟩, -, X103, ⟨Lc103, hQ103, l103, y103, z103⟩, st103⟩ := Jvm.LawKit.callS X102 hx (y := (⟨"com/example/winnower/winnower/core/Reduction", "relative", "(DD)D"⟩ : MethodName)) hown (mvT hZ (own_w hw 1 rfl)) (mvT hZ (own_w hw 2 rfl)) (mvT hZ (own_w hw 3 rfl)) (mvT hZ (own_w hw 4 rfl)) (by decide) (backOf (W := 0) (rm1p l Z a0 hw [] (FP.i2d ee) (FP.i2d ss) (FP.ddiv (FP.i2d ee) (FP.i2d ss)) h0 n0 Z0 hgt0 rfl (own_at_nn hz)) hZ (own_w hw 4 rfl) (own_w hw 3 rfl) (by decide) (by decide)) (g := (mkF m 36 #[.val (.int p0), .val (.int p1), .val (.int p2), .val (.int ss), .val (.int qq), .val (.int ee), .val (.double (FP.ddiv (FP.i2d (qq * ss)) (FP.i2d ss))), .second, .unset, .unset, .unset] [(.double (FP.i2d ss)), (.double (FP.i2d ee))])) rfl (by rw [hml]; rfl) (argsL := [(.double (FP.i2d ee)), (.double (FP.i2d ss))]) (rest := []) (lenOf pd0 rfl) rfl (by show 2 * 0 + _ ≤ _; exact Nat.le_of_eq rfl) (hb hby at_36) (fun _ _ => ⟨rfl, P102_0, (by decide : 0 + 0 ≤ _), (by decide : 0 + 0 ≤ _)⟩)
    dsimp only [Pt.U, Pt.locs, Pt.cells, Pt.slots] at X103 l103 y103 z103 st103 hQ103
    subst l103 y103 z103
    obtain ⟨rfl, Nq103, P103_0⟩ := hQ103
    have N103 := Fr.app N102 Nq103
    have pre104 : ∀ t, Steps p.tables e below (T103.setTop (mkF m 82 #[.val (.int p0), .val (.int p1), .val (.int p2), .val (.int ss), .val (.int qq), .val (.int ee), .val (.double (FP.ddiv (FP.i2d (qq * ss)) (FP.i2d ss))), .second, .val (.double (FP.ddiv (FP.i2d ee) (FP.i2d ss))), .second, .val (.int (ee / ss))] [])) t → Steps p.tables e below (s₁.setTop (mkF m 0 #[.val (.int p0), .val (.int p1), .val (.int p2), .unset, .unset, .unset, .unset, .unset, .unset, .unset, .unset] [])) t := by
      intro t kt
      refine pre101 _ ?_
      show own_S p e below s₁ m 19 #[.val (.int p0), .val (.int p1), .val (.int p2), .val (.int ss), .val (.int qq), .val (.int ee), .unset, .unset, .unset, .unset, .unset] [] _
      refine XS.iload X0.here hx rfl (hb hby at_19) rfl ?_
      show own_S p e below s₁ m 21 #[.val (.int p0), .val (.int p1), .val (.int p2), .val (.int ss), .val (.int qq), .val (.int ee), .unset, .unset, .unset, .unset, .unset] [(.int qq)] _
      refine XS.iloadN X0.here hx rfl (hb hby at_21) rfl ?_
      show own_S p e below s₁ m 22 #[.val (.int p0), .val (.int p1), .val (.int p2), .val (.int ss), .val (.int qq), .val (.int ee), .unset, .unset, .unset, .unset, .unset] [(.int ss), (.int qq)] _
      refine XS.imul X0.here hx rfl (hb hby at_22) rfl ?_
      show own_S p e below s₁ m 23 #[.val (.int p0), .val (.int p1), .val (.int p2), .val (.int ss), .val (.int qq), .val (.int ee), .unset, .unset, .unset, .unset, .unset] [(.int (qq * ss))] _
      refine XS.i2dS X0.here hx rfl (v := (FP.i2d (qq * ss))) (hb hby at_23) rfl rfl ?_
      show own_S p e below s₁ m 24 #[.val (.int p0), .val (.int p1), .val (.int p2), .val (.int ss), .val (.int qq), .val (.int ee), .unset, .unset, .unset, .unset, .unset] [(.double (FP.i2d (qq * ss)))] _
      refine XS.iloadN X0.here hx rfl (hb hby at_24) rfl ?_
      show own_S p e below s₁ m 25 #[.val (.int p0), .val (.int p1), .val (.int p2), .val (.int ss), .val (.int qq), .val (.int ee), .unset, .unset, .unset, .unset, .unset] [(.int ss), (.double (FP.i2d (qq * ss)))] _
      refine XS.i2dS X0.here hx rfl (v := (FP.i2d ss)) (hb hby at_25) rfl rfl ?_
      show own_S p e below s₁ m 26 #[.val (.int p0), .val (.int p1), .val (.int p2), .val (.int ss), .val (.int qq), .val (.int ee), .unset, .unset, .unset, .unset, .unset] [(.double (FP.i2d ss)), (.double (FP.i2d (qq * ss)))] _
      refine st102 _ ?_
      show own_S p e below T102 m 29 #[.val (.int p0), .val (.int p1), .val (.int p2), .val (.int ss), .val (.int qq), .val (.int ee), .unset, .unset, .unset, .unset, .unset] [(.double (FP.ddiv (FP.i2d (qq * ss)) (FP.i2d ss)))] _
      refine XS.dstore X102.here hx rfl (hb hby at_29) rfl (l' := #[.val (.int p0), .val (.int p1), .val (.int p2), .val (.int ss), .val (.int qq), .val (.int ee), .val (.double (FP.ddiv (FP.i2d (qq * ss)) (FP.i2d ss))), .second, .unset, .unset, .unset]) rfl ?_
      show own_S p e below T102 m 31 #[.val (.int p0), .val (.int p1), .val (.int p2), .val (.int ss), .val (.int qq), .val (.int ee), .val (.double (FP.ddiv (FP.i2d (qq * ss)) (FP.i2d ss))), .second, .unset, .unset, .unset] [] _
      refine XS.iload X102.here hx rfl (hb hby at_31) rfl ?_
      show own_S p e below T102 m 33 #[.val (.int p0), .val (.int p1), .val (.int p2), .val (.int ss), .val (.int qq), .val (.int ee), .val (.double (FP.ddiv (FP.i2d (qq * ss)) (FP.i2d ss))), .second, .unset, .unset, .unset] [(.int ee)] _
      refine XS.i2dS X102.here hx rfl (v := (FP.i2d ee)) (hb hby at_33) rfl rfl ?_
      show own_S p e below T102 m 34 #[.val (.int p0), .val (.int p1), .val (.int p2), .val (.int ss), .val (.int qq), .val (.int ee), .val (.double (FP.ddiv (FP.i2d (qq * ss)) (FP.i2d ss))), .second, .unset, .unset, .unset] [(.double (FP.i2d ee))] _
      refine XS.iloadN X102.here hx rfl (hb hby at_34) rfl ?_
      show own_S p e below T102 m 35 #[.val (.int p0), .val (.int p1), .val (.int p2), .val (.int ss), .val (.int qq), .val (.int ee), .val (.double (FP.ddiv (FP.i2d (qq * ss)) (FP.i2d ss))), .second, .unset, .unset, .unset] [(.int ss), (.double (FP.i2d ee))] _
      refine XS.i2dS X102.here hx rfl (v := (FP.i2d ss)) (hb hby at_35) rfl rfl ?_
      show own_S p e below T102 m 36 #[.val (.int p0), .val (.int p1), .val (.int p2), .val (.int ss), .val (.int qq), .val (.int ee), .val (.double (FP.ddiv (FP.i2d (qq * ss)) (FP.i2d ss))), .second, .unset, .unset, .unset] [(.double (FP.i2d ss)), (.double (FP.i2d ee))] _
      refine st103 _ ?_
      show own_S p e below T103 m 39 #[.val (.int p0), .val (.int p1), .val (.int p2), .val (.int ss), .val (.int qq), .val (.int ee), .val (.double (FP.ddiv (FP.i2d (qq * ss)) (FP.i2d ss))), .second, .unset, .unset, .unset] [(.double (FP.ddiv (FP.i2d ee) (FP.i2d ss)))] _
      refine XS.dstore X103.here hx rfl (hb hby at_39) rfl (l' := #[.val (.int p0), .val (.int p1), .val (.int p2), .val (.int ss), .val (.int qq), .val (.int ee), .val (.double (FP.ddiv (FP.i2d (qq * ss)) (FP.i2d ss))), .second, .val (.double (FP.ddiv (FP.i2d ee) (FP.i2d ss))), .second, .unset]) rfl ?_
      show own_S p e below T103 m 41 #[.val (.int p0), .val (.int p1), .val (.int p2), .val (.int ss), .val (.int qq), .val (.int ee), .val (.double (FP.ddiv (FP.i2d (qq * ss)) (FP.i2d ss))), .second, .val (.double (FP.ddiv (FP.i2d ee) (FP.i2d ss))), .second, .unset] [] _
      refine XS.iloadN X103.here hx rfl (hb hby at_41) rfl ?_
      show own_S p e below T103 m 42 #[.val (.int p0), .val (.int p1), .val (.int p2), .val (.int ss), .val (.int qq), .val (.int ee), .val (.double (FP.ddiv (FP.i2d (qq * ss)) (FP.i2d ss))), .second, .val (.double (FP.ddiv (FP.i2d ee) (FP.i2d ss))), .second, .unset] [(.int ss)] _
      refine XS.ifYes X103.here hx rfl (pc0 := 42) (pc' := 65) rfl (hb hby at_42) rfl ((if0 _ _).trans (tlt (hs : (0 : Int32) < ss)).2.2.1) (by decide) (by decide) ?_
      show own_S p e below T103 m 65 #[.val (.int p0), .val (.int p1), .val (.int p2), .val (.int ss), .val (.int qq), .val (.int ee), .val (.double (FP.ddiv (FP.i2d (qq * ss)) (FP.i2d ss))), .second, .val (.double (FP.ddiv (FP.i2d ee) (FP.i2d ss))), .second, .unset] [] _
      refine XS.dload X103.here hx rfl (hb hby at_65) rfl ?_
      show own_S p e below T103 m 67 #[.val (.int p0), .val (.int p1), .val (.int p2), .val (.int ss), .val (.int qq), .val (.int ee), .val (.double (FP.ddiv (FP.i2d (qq * ss)) (FP.i2d ss))), .second, .val (.double (FP.ddiv (FP.i2d ee) (FP.i2d ss))), .second, .unset] [(.double (FP.ddiv (FP.i2d (qq * ss)) (FP.i2d ss)))] _
      refine XS.iload X103.here hx rfl (hb hby at_67) rfl ?_
      show own_S p e below T103 m 69 #[.val (.int p0), .val (.int p1), .val (.int p2), .val (.int ss), .val (.int qq), .val (.int ee), .val (.double (FP.ddiv (FP.i2d (qq * ss)) (FP.i2d ss))), .second, .val (.double (FP.ddiv (FP.i2d ee) (FP.i2d ss))), .second, .unset] [(.int qq), (.double (FP.ddiv (FP.i2d (qq * ss)) (FP.i2d ss)))] _
      refine XS.i2dS X103.here hx rfl (v := (FP.i2d qq)) (hb hby at_69) rfl rfl ?_
      show own_S p e below T103 m 70 #[.val (.int p0), .val (.int p1), .val (.int p2), .val (.int ss), .val (.int qq), .val (.int ee), .val (.double (FP.ddiv (FP.i2d (qq * ss)) (FP.i2d ss))), .second, .val (.double (FP.ddiv (FP.i2d ee) (FP.i2d ss))), .second, .unset] [(.double (FP.i2d qq)), (.double (FP.ddiv (FP.i2d (qq * ss)) (FP.i2d ss)))] _
      refine XS.dcmpS X103.here hx rfl (v := (0 : Int32)) (hb hby at_70) rfl (own_ieq D1 Dq rfl .l) ?_
      show own_S p e below T103 m 71 #[.val (.int p0), .val (.int p1), .val (.int p2), .val (.int ss), .val (.int qq), .val (.int ee), .val (.double (FP.ddiv (FP.i2d (qq * ss)) (FP.i2d ss))), .second, .val (.double (FP.ddiv (FP.i2d ee) (FP.i2d ss))), .second, .unset] [(.int 0)] _
      refine XS.ifYes X103.here hx rfl (pc0 := 71) (pc' := 76) rfl (hb hby at_71) rfl ((if0 _ _).trans (teq (by decide : (0 : Int32) = (0 : Int32))).1) (by decide) (by decide) ?_
      show own_S p e below T103 m 76 #[.val (.int p0), .val (.int p1), .val (.int p2), .val (.int ss), .val (.int qq), .val (.int ee), .val (.double (FP.ddiv (FP.i2d (qq * ss)) (FP.i2d ss))), .second, .val (.double (FP.ddiv (FP.i2d ee) (FP.i2d ss))), .second, .unset] [] _
      refine XS.iload X103.here hx rfl (hb hby at_76) rfl ?_
      show own_S p e below T103 m 78 #[.val (.int p0), .val (.int p1), .val (.int p2), .val (.int ss), .val (.int qq), .val (.int ee), .val (.double (FP.ddiv (FP.i2d (qq * ss)) (FP.i2d ss))), .second, .val (.double (FP.ddiv (FP.i2d ee) (FP.i2d ss))), .second, .unset] [(.int ee)] _
      refine XS.iloadN X103.here hx rfl (hb hby at_78) rfl ?_
      show own_S p e below T103 m 79 #[.val (.int p0), .val (.int p1), .val (.int p2), .val (.int ss), .val (.int qq), .val (.int ee), .val (.double (FP.ddiv (FP.i2d (qq * ss)) (FP.i2d ss))), .second, .val (.double (FP.ddiv (FP.i2d ee) (FP.i2d ss))), .second, .unset] [(.int ss), (.int ee)] _
      refine XS.idiv X103.here hx rfl (hb hby at_79) rfl hnz ?_
      show own_S p e below T103 m 80 #[.val (.int p0), .val (.int p1), .val (.int p2), .val (.int ss), .val (.int qq), .val (.int ee), .val (.double (FP.ddiv (FP.i2d (qq * ss)) (FP.i2d ss))), .second, .val (.double (FP.ddiv (FP.i2d ee) (FP.i2d ss))), .second, .unset] [(.int (ee / ss))] _
      refine XS.istore X103.here hx rfl (hb hby at_80) rfl (l' := #[.val (.int p0), .val (.int p1), .val (.int p2), .val (.int ss), .val (.int qq), .val (.int ee), .val (.double (FP.ddiv (FP.i2d (qq * ss)) (FP.i2d ss))), .second, .val (.double (FP.ddiv (FP.i2d ee) (FP.i2d ss))), .second, .val (.int (ee / ss))]) rfl ?_
      exact kt
    by_cases he0 : ee < (0 : Int32)
    · skip
      have heI : ee.toInt < 0 := Int32.lt_iff_toInt_lt.mp he0
      obtain ⟨z1, z2⟩ := hzn heI
      have hq := hdv.2 heI
      have hqb : 0 ≤ (-ee.toInt) / ss.toInt ∧ (-ee.toInt) / ss.toInt ≤ -ee.toInt := ⟨Int.ediv_nonneg (by omega) (by omega), Int.ediv_le_self _ (by omega)⟩
      have hq1 : (ee / ss - (1 : Int32)).toInt = -((-ee.toInt) / ss.toInt) - 1 := by rw [Int32.toInt_sub, hq]; exact Int.bmod_eq_of_le (by show _ ≤ _ - (1 : Int); omega) (by show _ - (1 : Int) < _; omega)
      have h121 : (cmpValue (FP.dcmp (FP.i2d (ee / ss - (1 : Int32))) (FP.ddiv (FP.i2d ee) (FP.i2d ss))) .g) < (0 : Int32) := by
        rw [own_cmpV (own_int (FP.Core.i2d_int (ee / ss - (1 : Int32)))) hz, hq1, if_pos z1]; decide
      have h130 : ¬ ((0 : Int32) < (cmpValue (FP.dcmp (FP.ddiv (FP.i2d ee) (FP.i2d ss)) (FP.i2d (ee / ss))) .g)) := by
        rw [own_cmpV hz (own_int (FP.Core.i2d_int (ee / ss))), hq]
        split <;> (try split) <;> first | decide | omega
      obtain ⟨fs, hr, hrun, hended, hW, hsame⟩ := X103.leave (v := some (.int 1)) (fun h => by rw [Bd.returns] at h; cases h)
      refine ⟨_, _, pre0 _ (pre104 _ ?_), hrun, hended, _, _, rfl, ?_, ⟨_, rfl⟩, hW, hsame.mono (by decide) (by decide)⟩
      · show own_S p e below T103 m 82 #[.val (.int p0), .val (.int p1), .val (.int p2), .val (.int ss), .val (.int qq), .val (.int ee), .val (.double (FP.ddiv (FP.i2d (qq * ss)) (FP.i2d ss))), .second, .val (.double (FP.ddiv (FP.i2d ee) (FP.i2d ss))), .second, .val (.int (ee / ss))] [] _
        refine XS.iload X103.here hx rfl (hb hby at_82) rfl ?_
        show own_S p e below T103 m 84 #[.val (.int p0), .val (.int p1), .val (.int p2), .val (.int ss), .val (.int qq), .val (.int ee), .val (.double (FP.ddiv (FP.i2d (qq * ss)) (FP.i2d ss))), .second, .val (.double (FP.ddiv (FP.i2d ee) (FP.i2d ss))), .second, .val (.int (ee / ss))] [(.int ee)] _
        refine XS.ifYes X103.here hx rfl (pc0 := 84) (pc' := 113) rfl (hb hby at_84) rfl ((if0 _ _).trans (tlt (he0 : ee < (0 : Int32))).1) (by decide) (by decide) ?_
        show own_S p e below T103 m 113 #[.val (.int p0), .val (.int p1), .val (.int p2), .val (.int ss), .val (.int qq), .val (.int ee), .val (.double (FP.ddiv (FP.i2d (qq * ss)) (FP.i2d ss))), .second, .val (.double (FP.ddiv (FP.i2d ee) (FP.i2d ss))), .second, .val (.int (ee / ss))] [] _
        refine XS.iload X103.here hx rfl (hb hby at_113) rfl ?_
        show own_S p e below T103 m 115 #[.val (.int p0), .val (.int p1), .val (.int p2), .val (.int ss), .val (.int qq), .val (.int ee), .val (.double (FP.ddiv (FP.i2d (qq * ss)) (FP.i2d ss))), .second, .val (.double (FP.ddiv (FP.i2d ee) (FP.i2d ss))), .second, .val (.int (ee / ss))] [(.int (ee / ss))] _
        refine XS.iconst X103.here hx rfl (hb hby at_115) ?_
        show own_S p e below T103 m 116 #[.val (.int p0), .val (.int p1), .val (.int p2), .val (.int ss), .val (.int qq), .val (.int ee), .val (.double (FP.ddiv (FP.i2d (qq * ss)) (FP.i2d ss))), .second, .val (.double (FP.ddiv (FP.i2d ee) (FP.i2d ss))), .second, .val (.int (ee / ss))] [(.int 1), (.int (ee / ss))] _
        refine XS.isub X103.here hx rfl (hb hby at_116) rfl ?_
        show own_S p e below T103 m 117 #[.val (.int p0), .val (.int p1), .val (.int p2), .val (.int ss), .val (.int qq), .val (.int ee), .val (.double (FP.ddiv (FP.i2d (qq * ss)) (FP.i2d ss))), .second, .val (.double (FP.ddiv (FP.i2d ee) (FP.i2d ss))), .second, .val (.int (ee / ss))] [(.int ((ee / ss) - (1 : Int32)))] _
        refine XS.i2dS X103.here hx rfl (v := (FP.i2d ((ee / ss) - (1 : Int32)))) (hb hby at_117) rfl rfl ?_
        show own_S p e below T103 m 118 #[.val (.int p0), .val (.int p1), .val (.int p2), .val (.int ss), .val (.int qq), .val (.int ee), .val (.double (FP.ddiv (FP.i2d (qq * ss)) (FP.i2d ss))), .second, .val (.double (FP.ddiv (FP.i2d ee) (FP.i2d ss))), .second, .val (.int (ee / ss))] [(.double (FP.i2d ((ee / ss) - (1 : Int32))))] _
        refine XS.dload X103.here hx rfl (hb hby at_118) rfl ?_
        show own_S p e below T103 m 120 #[.val (.int p0), .val (.int p1), .val (.int p2), .val (.int ss), .val (.int qq), .val (.int ee), .val (.double (FP.ddiv (FP.i2d (qq * ss)) (FP.i2d ss))), .second, .val (.double (FP.ddiv (FP.i2d ee) (FP.i2d ss))), .second, .val (.int (ee / ss))] [(.double (FP.ddiv (FP.i2d ee) (FP.i2d ss))), (.double (FP.i2d ((ee / ss) - (1 : Int32))))] _
        refine XS.dcmpS X103.here hx rfl (v := (cmpValue (FP.dcmp (FP.i2d ((ee / ss) - (1 : Int32))) (FP.ddiv (FP.i2d ee) (FP.i2d ss))) .g)) (hb hby at_120) rfl rfl ?_
        show own_S p e below T103 m 121 #[.val (.int p0), .val (.int p1), .val (.int p2), .val (.int ss), .val (.int qq), .val (.int ee), .val (.double (FP.ddiv (FP.i2d (qq * ss)) (FP.i2d ss))), .second, .val (.double (FP.ddiv (FP.i2d ee) (FP.i2d ss))), .second, .val (.int (ee / ss))] [(.int (cmpValue (FP.dcmp (FP.i2d ((ee / ss) - (1 : Int32))) (FP.ddiv (FP.i2d ee) (FP.i2d ss))) .g))] _
        refine XS.ifNo X103.here hx rfl (hb hby at_121) rfl ((if0 _ _).trans (tlt (h121 : (cmpValue (FP.dcmp (FP.i2d ((ee / ss) - (1 : Int32))) (FP.ddiv (FP.i2d ee) (FP.i2d ss))) .g) < (0 : Int32))).2.1) ?_
        show own_S p e below T103 m 124 #[.val (.int p0), .val (.int p1), .val (.int p2), .val (.int ss), .val (.int qq), .val (.int ee), .val (.double (FP.ddiv (FP.i2d (qq * ss)) (FP.i2d ss))), .second, .val (.double (FP.ddiv (FP.i2d ee) (FP.i2d ss))), .second, .val (.int (ee / ss))] [] _
        refine XS.dload X103.here hx rfl (hb hby at_124) rfl ?_
        show own_S p e below T103 m 126 #[.val (.int p0), .val (.int p1), .val (.int p2), .val (.int ss), .val (.int qq), .val (.int ee), .val (.double (FP.ddiv (FP.i2d (qq * ss)) (FP.i2d ss))), .second, .val (.double (FP.ddiv (FP.i2d ee) (FP.i2d ss))), .second, .val (.int (ee / ss))] [(.double (FP.ddiv (FP.i2d ee) (FP.i2d ss)))] _
        refine XS.iload X103.here hx rfl (hb hby at_126) rfl ?_
        show own_S p e below T103 m 128 #[.val (.int p0), .val (.int p1), .val (.int p2), .val (.int ss), .val (.int qq), .val (.int ee), .val (.double (FP.ddiv (FP.i2d (qq * ss)) (FP.i2d ss))), .second, .val (.double (FP.ddiv (FP.i2d ee) (FP.i2d ss))), .second, .val (.int (ee / ss))] [(.int (ee / ss)), (.double (FP.ddiv (FP.i2d ee) (FP.i2d ss)))] _
        refine XS.i2dS X103.here hx rfl (v := (FP.i2d (ee / ss))) (hb hby at_128) rfl rfl ?_
        show own_S p e below T103 m 129 #[.val (.int p0), .val (.int p1), .val (.int p2), .val (.int ss), .val (.int qq), .val (.int ee), .val (.double (FP.ddiv (FP.i2d (qq * ss)) (FP.i2d ss))), .second, .val (.double (FP.ddiv (FP.i2d ee) (FP.i2d ss))), .second, .val (.int (ee / ss))] [(.double (FP.i2d (ee / ss))), (.double (FP.ddiv (FP.i2d ee) (FP.i2d ss)))] _
        refine XS.dcmpS X103.here hx rfl (v := (cmpValue (FP.dcmp (FP.ddiv (FP.i2d ee) (FP.i2d ss)) (FP.i2d (ee / ss))) .g)) (hb hby at_129) rfl rfl ?_
        show own_S p e below T103 m 130 #[.val (.int p0), .val (.int p1), .val (.int p2), .val (.int ss), .val (.int qq), .val (.int ee), .val (.double (FP.ddiv (FP.i2d (qq * ss)) (FP.i2d ss))), .second, .val (.double (FP.ddiv (FP.i2d ee) (FP.i2d ss))), .second, .val (.int (ee / ss))] [(.int (cmpValue (FP.dcmp (FP.ddiv (FP.i2d ee) (FP.i2d ss)) (FP.i2d (ee / ss))) .g))] _
        refine XS.ifNo X103.here hx rfl (hb hby at_130) rfl ((if0 _ _).trans (flt (h130 : ¬ ((0 : Int32) < (cmpValue (FP.dcmp (FP.ddiv (FP.i2d ee) (FP.i2d ss)) (FP.i2d (ee / ss))) .g)))).2.2.1) ?_
        show own_S p e below T103 m 133 #[.val (.int p0), .val (.int p1), .val (.int p2), .val (.int ss), .val (.int qq), .val (.int ee), .val (.double (FP.ddiv (FP.i2d (qq * ss)) (FP.i2d ss))), .second, .val (.double (FP.ddiv (FP.i2d ee) (FP.i2d ss))), .second, .val (.int (ee / ss))] [] _
        refine XS.iconst X103.here hx rfl (hb hby at_133) ?_
        show own_S p e below T103 m 134 #[.val (.int p0), .val (.int p1), .val (.int p2), .val (.int ss), .val (.int qq), .val (.int ee), .val (.double (FP.ddiv (FP.i2d (qq * ss)) (FP.i2d ss))), .second, .val (.double (FP.ddiv (FP.i2d ee) (FP.i2d ss))), .second, .val (.int (ee / ss))] [(.int 1)] _
        refine XS.goto X103.here hx rfl (pc0 := 134) (pc' := 138) rfl (hb hby at_134) (by decide) (by decide) ?_
        show own_S p e below T103 m 138 #[.val (.int p0), .val (.int p1), .val (.int p2), .val (.int ss), .val (.int qq), .val (.int ee), .val (.double (FP.ddiv (FP.i2d (qq * ss)) (FP.i2d ss))), .second, .val (.double (FP.ddiv (FP.i2d ee) (FP.i2d ss))), .second, .val (.int (ee / ss))] [(.int 1)] _
        exact retN X103 hx (t := .boolean) Bd.returns (by simp) (hb hby at_138) hr
      · show Qm0 Z p0 p1 p2 h0 n0 _ T103.heap _
        rw [P103_0]
        exact ⟨rfl, N103⟩
    · skip
      have heI : 0 ≤ ee.toInt := Int.not_lt.mp (fun q => he0 (Int32.lt_iff_toInt_lt.mpr q))
      obtain ⟨z1, z2⟩ := hzp heI
      have hq := hdv.1 heI
      have hqb : 0 ≤ ee.toInt / ss.toInt ∧ ee.toInt / ss.toInt ≤ ee.toInt := ⟨Int.ediv_nonneg heI (by omega), Int.ediv_le_self _ heI⟩
      have hq1 : (ee / ss + (1 : Int32)).toInt = ee.toInt / ss.toInt + 1 := by rw [Int32.toInt_add, hq]; exact Int.bmod_eq_of_le (by show _ ≤ _ + (1 : Int); omega) (by show _ + (1 : Int) < _; omega)
      have h93 : ¬ ((0 : Int32) < (cmpValue (FP.dcmp (FP.i2d (ee / ss)) (FP.ddiv (FP.i2d ee) (FP.i2d ss))) .g)) := by
        rw [own_cmpV (own_int (FP.Core.i2d_int (ee / ss))) hz, hq]
        split <;> (try split) <;> first | decide | omega
      have h104 : (cmpValue (FP.dcmp (FP.ddiv (FP.i2d ee) (FP.i2d ss)) (FP.i2d (ee / ss + (1 : Int32)))) .g) < (0 : Int32) := by
        rw [own_cmpV hz (own_int (FP.Core.i2d_int (ee / ss + (1 : Int32)))), hq1, if_pos z2]; decide
      obtain ⟨fs, hr, hrun, hended, hW, hsame⟩ := X103.leave (v := some (.int 1)) (fun h => by rw [Bd.returns] at h; cases h)
      refine ⟨_, _, pre0 _ (pre104 _ ?_), hrun, hended, _, _, rfl, ?_, ⟨_, rfl⟩, hW, hsame.mono (by decide) (by decide)⟩
      · show own_S p e below T103 m 82 #[.val (.int p0), .val (.int p1), .val (.int p2), .val (.int ss), .val (.int qq), .val (.int ee), .val (.double (FP.ddiv (FP.i2d (qq * ss)) (FP.i2d ss))), .second, .val (.double (FP.ddiv (FP.i2d ee) (FP.i2d ss))), .second, .val (.int (ee / ss))] [] _
        refine XS.iload X103.here hx rfl (hb hby at_82) rfl ?_
        show own_S p e below T103 m 84 #[.val (.int p0), .val (.int p1), .val (.int p2), .val (.int ss), .val (.int qq), .val (.int ee), .val (.double (FP.ddiv (FP.i2d (qq * ss)) (FP.i2d ss))), .second, .val (.double (FP.ddiv (FP.i2d ee) (FP.i2d ss))), .second, .val (.int (ee / ss))] [(.int ee)] _
        refine XS.ifNo X103.here hx rfl (hb hby at_84) rfl ((if0 _ _).trans (flt (he0 : ¬ (ee < (0 : Int32)))).1) ?_
        show own_S p e below T103 m 87 #[.val (.int p0), .val (.int p1), .val (.int p2), .val (.int ss), .val (.int qq), .val (.int ee), .val (.double (FP.ddiv (FP.i2d (qq * ss)) (FP.i2d ss))), .second, .val (.double (FP.ddiv (FP.i2d ee) (FP.i2d ss))), .second, .val (.int (ee / ss))] [] _
        refine XS.iload X103.here hx rfl (hb hby at_87) rfl ?_
        show own_S p e below T103 m 89 #[.val (.int p0), .val (.int p1), .val (.int p2), .val (.int ss), .val (.int qq), .val (.int ee), .val (.double (FP.ddiv (FP.i2d (qq * ss)) (FP.i2d ss))), .second, .val (.double (FP.ddiv (FP.i2d ee) (FP.i2d ss))), .second, .val (.int (ee / ss))] [(.int (ee / ss))] _
        refine XS.i2dS X103.here hx rfl (v := (FP.i2d (ee / ss))) (hb hby at_89) rfl rfl ?_
        show own_S p e below T103 m 90 #[.val (.int p0), .val (.int p1), .val (.int p2), .val (.int ss), .val (.int qq), .val (.int ee), .val (.double (FP.ddiv (FP.i2d (qq * ss)) (FP.i2d ss))), .second, .val (.double (FP.ddiv (FP.i2d ee) (FP.i2d ss))), .second, .val (.int (ee / ss))] [(.double (FP.i2d (ee / ss)))] _
        refine XS.dload X103.here hx rfl (hb hby at_90) rfl ?_
        show own_S p e below T103 m 92 #[.val (.int p0), .val (.int p1), .val (.int p2), .val (.int ss), .val (.int qq), .val (.int ee), .val (.double (FP.ddiv (FP.i2d (qq * ss)) (FP.i2d ss))), .second, .val (.double (FP.ddiv (FP.i2d ee) (FP.i2d ss))), .second, .val (.int (ee / ss))] [(.double (FP.ddiv (FP.i2d ee) (FP.i2d ss))), (.double (FP.i2d (ee / ss)))] _
        refine XS.dcmpS X103.here hx rfl (v := (cmpValue (FP.dcmp (FP.i2d (ee / ss)) (FP.ddiv (FP.i2d ee) (FP.i2d ss))) .g)) (hb hby at_92) rfl rfl ?_
        show own_S p e below T103 m 93 #[.val (.int p0), .val (.int p1), .val (.int p2), .val (.int ss), .val (.int qq), .val (.int ee), .val (.double (FP.ddiv (FP.i2d (qq * ss)) (FP.i2d ss))), .second, .val (.double (FP.ddiv (FP.i2d ee) (FP.i2d ss))), .second, .val (.int (ee / ss))] [(.int (cmpValue (FP.dcmp (FP.i2d (ee / ss)) (FP.ddiv (FP.i2d ee) (FP.i2d ss))) .g))] _
        refine XS.ifNo X103.here hx rfl (hb hby at_93) rfl ((if0 _ _).trans (flt (h93 : ¬ ((0 : Int32) < (cmpValue (FP.dcmp (FP.i2d (ee / ss)) (FP.ddiv (FP.i2d ee) (FP.i2d ss))) .g)))).2.2.1) ?_
        show own_S p e below T103 m 96 #[.val (.int p0), .val (.int p1), .val (.int p2), .val (.int ss), .val (.int qq), .val (.int ee), .val (.double (FP.ddiv (FP.i2d (qq * ss)) (FP.i2d ss))), .second, .val (.double (FP.ddiv (FP.i2d ee) (FP.i2d ss))), .second, .val (.int (ee / ss))] [] _
        refine XS.dload X103.here hx rfl (hb hby at_96) rfl ?_
        show own_S p e below T103 m 98 #[.val (.int p0), .val (.int p1), .val (.int p2), .val (.int ss), .val (.int qq), .val (.int ee), .val (.double (FP.ddiv (FP.i2d (qq * ss)) (FP.i2d ss))), .second, .val (.double (FP.ddiv (FP.i2d ee) (FP.i2d ss))), .second, .val (.int (ee / ss))] [(.double (FP.ddiv (FP.i2d ee) (FP.i2d ss)))] _
        refine XS.iload X103.here hx rfl (hb hby at_98) rfl ?_
        show own_S p e below T103 m 100 #[.val (.int p0), .val (.int p1), .val (.int p2), .val (.int ss), .val (.int qq), .val (.int ee), .val (.double (FP.ddiv (FP.i2d (qq * ss)) (FP.i2d ss))), .second, .val (.double (FP.ddiv (FP.i2d ee) (FP.i2d ss))), .second, .val (.int (ee / ss))] [(.int (ee / ss)), (.double (FP.ddiv (FP.i2d ee) (FP.i2d ss)))] _
        refine XS.iconst X103.here hx rfl (hb hby at_100) ?_
        show own_S p e below T103 m 101 #[.val (.int p0), .val (.int p1), .val (.int p2), .val (.int ss), .val (.int qq), .val (.int ee), .val (.double (FP.ddiv (FP.i2d (qq * ss)) (FP.i2d ss))), .second, .val (.double (FP.ddiv (FP.i2d ee) (FP.i2d ss))), .second, .val (.int (ee / ss))] [(.int 1), (.int (ee / ss)), (.double (FP.ddiv (FP.i2d ee) (FP.i2d ss)))] _
        refine XS.iadd X103.here hx rfl (hb hby at_101) rfl ?_
        show own_S p e below T103 m 102 #[.val (.int p0), .val (.int p1), .val (.int p2), .val (.int ss), .val (.int qq), .val (.int ee), .val (.double (FP.ddiv (FP.i2d (qq * ss)) (FP.i2d ss))), .second, .val (.double (FP.ddiv (FP.i2d ee) (FP.i2d ss))), .second, .val (.int (ee / ss))] [(.int ((ee / ss) + (1 : Int32))), (.double (FP.ddiv (FP.i2d ee) (FP.i2d ss)))] _
        refine XS.i2dS X103.here hx rfl (v := (FP.i2d ((ee / ss) + (1 : Int32)))) (hb hby at_102) rfl rfl ?_
        show own_S p e below T103 m 103 #[.val (.int p0), .val (.int p1), .val (.int p2), .val (.int ss), .val (.int qq), .val (.int ee), .val (.double (FP.ddiv (FP.i2d (qq * ss)) (FP.i2d ss))), .second, .val (.double (FP.ddiv (FP.i2d ee) (FP.i2d ss))), .second, .val (.int (ee / ss))] [(.double (FP.i2d ((ee / ss) + (1 : Int32)))), (.double (FP.ddiv (FP.i2d ee) (FP.i2d ss)))] _
        refine XS.dcmpS X103.here hx rfl (v := (cmpValue (FP.dcmp (FP.ddiv (FP.i2d ee) (FP.i2d ss)) (FP.i2d ((ee / ss) + (1 : Int32)))) .g)) (hb hby at_103) rfl rfl ?_
        show own_S p e below T103 m 104 #[.val (.int p0), .val (.int p1), .val (.int p2), .val (.int ss), .val (.int qq), .val (.int ee), .val (.double (FP.ddiv (FP.i2d (qq * ss)) (FP.i2d ss))), .second, .val (.double (FP.ddiv (FP.i2d ee) (FP.i2d ss))), .second, .val (.int (ee / ss))] [(.int (cmpValue (FP.dcmp (FP.ddiv (FP.i2d ee) (FP.i2d ss)) (FP.i2d ((ee / ss) + (1 : Int32)))) .g))] _
        refine XS.ifNo X103.here hx rfl (hb hby at_104) rfl ((if0 _ _).trans (tlt (h104 : (cmpValue (FP.dcmp (FP.ddiv (FP.i2d ee) (FP.i2d ss)) (FP.i2d ((ee / ss) + (1 : Int32)))) .g) < (0 : Int32))).2.1) ?_
        show own_S p e below T103 m 107 #[.val (.int p0), .val (.int p1), .val (.int p2), .val (.int ss), .val (.int qq), .val (.int ee), .val (.double (FP.ddiv (FP.i2d (qq * ss)) (FP.i2d ss))), .second, .val (.double (FP.ddiv (FP.i2d ee) (FP.i2d ss))), .second, .val (.int (ee / ss))] [] _
        refine XS.iconst X103.here hx rfl (hb hby at_107) ?_
        show own_S p e below T103 m 108 #[.val (.int p0), .val (.int p1), .val (.int p2), .val (.int ss), .val (.int qq), .val (.int ee), .val (.double (FP.ddiv (FP.i2d (qq * ss)) (FP.i2d ss))), .second, .val (.double (FP.ddiv (FP.i2d ee) (FP.i2d ss))), .second, .val (.int (ee / ss))] [(.int 1)] _
        refine XS.goto X103.here hx rfl (pc0 := 108) (pc' := 112) rfl (hb hby at_108) (by decide) (by decide) ?_
        show own_S p e below T103 m 112 #[.val (.int p0), .val (.int p1), .val (.int p2), .val (.int ss), .val (.int qq), .val (.int ee), .val (.double (FP.ddiv (FP.i2d (qq * ss)) (FP.i2d ss))), .second, .val (.double (FP.ddiv (FP.i2d ee) (FP.i2d ss))), .second, .val (.int (ee / ss))] [(.int 1)] _
        exact retN X103 hx (t := .boolean) Bd.returns (by simp) (hb hby at_112) hr
      · show Qm0 Z p0 p1 p2 h0 n0 _ T103.heap _
        rw [P103_0]
        exact ⟨rfl, N103⟩
  · skip
    have hle0 : ¬ ((0 : Int32) < (cmpValue (FP.dcmp (FP.i2d ss) (0 : UInt64)) .l)) := by
      rw [own_icmp Ds Dz]
      have : ¬ (0 < ss.toInt) := fun q => hs (Int32.lt_iff_toInt_lt.mpr q)
      split <;> (try split) <;> first | decide | omega
    obtain ⟨_, _, ⟨T105, L105, k105, n105⟩, -, X105, ⟨Lc105, hQ105, l105, y105, z105⟩, st105⟩ := Jvm.LawKit.callS X0 hx (y := (⟨"com/example/winnower/winnower/core/Reduction", "relative", "(DD)D"⟩ : MethodName)) hown (mvT hZ (own_w hw 1 rfl)) (mvT hZ (own_w hw 2 rfl)) (mvT hZ (own_w hw 3 rfl)) (mvT hZ (own_w hw 4 rfl)) (by decide) (backOf (W := 0) (rm1z l Z a0 hw [] (FP.i2d (qq * ss)) (FP.i2d ss) h0 n0 Z0 hle0) hZ (own_w hw 4 rfl) (own_w hw 3 rfl) (by decide) (by decide)) (g := (mkF m 26 #[.val (.int p0), .val (.int p1), .val (.int p2), .val (.int ss), .val (.int qq), .val (.int ee), .unset, .unset, .unset, .unset, .unset] [(.double (FP.i2d ss)), (.double (FP.i2d (qq * ss)))])) rfl (by rw [hml]; rfl) (argsL := [(.double (FP.i2d (qq * ss))), (.double (FP.i2d ss))]) (rest := []) (lenOf pd0 rfl) rfl (by show 2 * 0 + _ ≤ _; exact Nat.le_of_eq rfl) (hb hby at_26) (fun _ _ => ⟨rfl, e0, (by decide : 0 + 0 ≤ _), (by decide : 0 + 0 ≤ _)⟩)
    dsimp only [Pt.U, Pt.locs, Pt.cells, Pt.slots] at X105 l105 y105 z105 st105 hQ105
    subst l105 y105 z105
    obtain ⟨rfl, Nq105, P105_0⟩ := hQ105
    have N105 := Fr.app N0 Nq105
    obtain ⟨_, _, ⟨T106, L106, k106, n106⟩, -, X106, ⟨Lc106, hQ106, l106, y106, z106⟩, st106⟩ := Jvm.LawKit.callS X105 hx (y := (⟨"com/example/winnower/winnower/core/Reduction", "relative", "(DD)D"⟩ : MethodName)) hown (mvT hZ (own_w hw 1 rfl)) (mvT hZ (own_w hw 2 rfl)) (mvT hZ (own_w hw 3 rfl)) (mvT hZ (own_w hw 4 rfl)) (by decide) (backOf (W := 0) (rm1z l Z a0 hw [] (FP.i2d ee) (FP.i2d ss) h0 n0 Z0 hle0) hZ (own_w hw 4 rfl) (own_w hw 3 rfl) (by decide) (by decide)) (g := (mkF m 36 #[.val (.int p0), .val (.int p1), .val (.int p2), .val (.int ss), .val (.int qq), .val (.int ee), .val (.double 0), .second, .unset, .unset, .unset] [(.double (FP.i2d ss)), (.double (FP.i2d ee))])) rfl (by rw [hml]; rfl) (argsL := [(.double (FP.i2d ee)), (.double (FP.i2d ss))]) (rest := []) (lenOf pd0 rfl) rfl (by show 2 * 0 + _ ≤ _; exact Nat.le_of_eq rfl) (hb hby at_36) (fun _ _ => ⟨rfl, P105_0, (by decide : 0 + 0 ≤ _), (by decide : 0 + 0 ≤ _)⟩)
    dsimp only [Pt.U, Pt.locs, Pt.cells, Pt.slots] at X106 l106 y106 z106 st106 hQ106
    subst l106 y106 z106
    obtain ⟨rfl, Nq106, P106_0⟩ := hQ106
    have N106 := Fr.app N105 Nq106
    obtain ⟨fs, hr, hrun, hended, hW, hsame⟩ := X106.leave (v := some (.int 1)) (fun h => by rw [Bd.returns] at h; cases h)
    refine ⟨_, _, pre0 _ (pre101 _ ?_), hrun, hended, _, _, rfl, ?_, ⟨_, rfl⟩, hW, hsame.mono (by decide) (by decide)⟩
    · show own_S p e below s₁ m 19 #[.val (.int p0), .val (.int p1), .val (.int p2), .val (.int ss), .val (.int qq), .val (.int ee), .unset, .unset, .unset, .unset, .unset] [] _
      refine XS.iload X0.here hx rfl (hb hby at_19) rfl ?_
      show own_S p e below s₁ m 21 #[.val (.int p0), .val (.int p1), .val (.int p2), .val (.int ss), .val (.int qq), .val (.int ee), .unset, .unset, .unset, .unset, .unset] [(.int qq)] _
      refine XS.iloadN X0.here hx rfl (hb hby at_21) rfl ?_
      show own_S p e below s₁ m 22 #[.val (.int p0), .val (.int p1), .val (.int p2), .val (.int ss), .val (.int qq), .val (.int ee), .unset, .unset, .unset, .unset, .unset] [(.int ss), (.int qq)] _
      refine XS.imul X0.here hx rfl (hb hby at_22) rfl ?_
      show own_S p e below s₁ m 23 #[.val (.int p0), .val (.int p1), .val (.int p2), .val (.int ss), .val (.int qq), .val (.int ee), .unset, .unset, .unset, .unset, .unset] [(.int (qq * ss))] _
      refine XS.i2dS X0.here hx rfl (v := (FP.i2d (qq * ss))) (hb hby at_23) rfl rfl ?_
      show own_S p e below s₁ m 24 #[.val (.int p0), .val (.int p1), .val (.int p2), .val (.int ss), .val (.int qq), .val (.int ee), .unset, .unset, .unset, .unset, .unset] [(.double (FP.i2d (qq * ss)))] _
      refine XS.iloadN X0.here hx rfl (hb hby at_24) rfl ?_
      show own_S p e below s₁ m 25 #[.val (.int p0), .val (.int p1), .val (.int p2), .val (.int ss), .val (.int qq), .val (.int ee), .unset, .unset, .unset, .unset, .unset] [(.int ss), (.double (FP.i2d (qq * ss)))] _
      refine XS.i2dS X0.here hx rfl (v := (FP.i2d ss)) (hb hby at_25) rfl rfl ?_
      show own_S p e below s₁ m 26 #[.val (.int p0), .val (.int p1), .val (.int p2), .val (.int ss), .val (.int qq), .val (.int ee), .unset, .unset, .unset, .unset, .unset] [(.double (FP.i2d ss)), (.double (FP.i2d (qq * ss)))] _
      refine st105 _ ?_
      show own_S p e below T105 m 29 #[.val (.int p0), .val (.int p1), .val (.int p2), .val (.int ss), .val (.int qq), .val (.int ee), .unset, .unset, .unset, .unset, .unset] [(.double 0)] _
      refine XS.dstore X105.here hx rfl (hb hby at_29) rfl (l' := #[.val (.int p0), .val (.int p1), .val (.int p2), .val (.int ss), .val (.int qq), .val (.int ee), .val (.double 0), .second, .unset, .unset, .unset]) rfl ?_
      show own_S p e below T105 m 31 #[.val (.int p0), .val (.int p1), .val (.int p2), .val (.int ss), .val (.int qq), .val (.int ee), .val (.double 0), .second, .unset, .unset, .unset] [] _
      refine XS.iload X105.here hx rfl (hb hby at_31) rfl ?_
      show own_S p e below T105 m 33 #[.val (.int p0), .val (.int p1), .val (.int p2), .val (.int ss), .val (.int qq), .val (.int ee), .val (.double 0), .second, .unset, .unset, .unset] [(.int ee)] _
      refine XS.i2dS X105.here hx rfl (v := (FP.i2d ee)) (hb hby at_33) rfl rfl ?_
      show own_S p e below T105 m 34 #[.val (.int p0), .val (.int p1), .val (.int p2), .val (.int ss), .val (.int qq), .val (.int ee), .val (.double 0), .second, .unset, .unset, .unset] [(.double (FP.i2d ee))] _
      refine XS.iloadN X105.here hx rfl (hb hby at_34) rfl ?_
      show own_S p e below T105 m 35 #[.val (.int p0), .val (.int p1), .val (.int p2), .val (.int ss), .val (.int qq), .val (.int ee), .val (.double 0), .second, .unset, .unset, .unset] [(.int ss), (.double (FP.i2d ee))] _
      refine XS.i2dS X105.here hx rfl (v := (FP.i2d ss)) (hb hby at_35) rfl rfl ?_
      show own_S p e below T105 m 36 #[.val (.int p0), .val (.int p1), .val (.int p2), .val (.int ss), .val (.int qq), .val (.int ee), .val (.double 0), .second, .unset, .unset, .unset] [(.double (FP.i2d ss)), (.double (FP.i2d ee))] _
      refine st106 _ ?_
      show own_S p e below T106 m 39 #[.val (.int p0), .val (.int p1), .val (.int p2), .val (.int ss), .val (.int qq), .val (.int ee), .val (.double 0), .second, .unset, .unset, .unset] [(.double 0)] _
      refine XS.dstore X106.here hx rfl (hb hby at_39) rfl (l' := #[.val (.int p0), .val (.int p1), .val (.int p2), .val (.int ss), .val (.int qq), .val (.int ee), .val (.double 0), .second, .val (.double 0), .second, .unset]) rfl ?_
      show own_S p e below T106 m 41 #[.val (.int p0), .val (.int p1), .val (.int p2), .val (.int ss), .val (.int qq), .val (.int ee), .val (.double 0), .second, .val (.double 0), .second, .unset] [] _
      refine XS.iloadN X106.here hx rfl (hb hby at_41) rfl ?_
      show own_S p e below T106 m 42 #[.val (.int p0), .val (.int p1), .val (.int p2), .val (.int ss), .val (.int qq), .val (.int ee), .val (.double 0), .second, .val (.double 0), .second, .unset] [(.int ss)] _
      refine XS.ifNo X106.here hx rfl (hb hby at_42) rfl ((if0 _ _).trans (flt (hs : ¬ ((0 : Int32) < ss))).2.2.1) ?_
      show own_S p e below T106 m 45 #[.val (.int p0), .val (.int p1), .val (.int p2), .val (.int ss), .val (.int qq), .val (.int ee), .val (.double 0), .second, .val (.double 0), .second, .unset] [] _
      refine XS.dload X106.here hx rfl (hb hby at_45) rfl ?_
      show own_S p e below T106 m 47 #[.val (.int p0), .val (.int p1), .val (.int p2), .val (.int ss), .val (.int qq), .val (.int ee), .val (.double 0), .second, .val (.double 0), .second, .unset] [(.double 0)] _
      refine XS.dconst0 X106.here hx rfl (v := 0) (hb hby at_47) rfl ?_
      show own_S p e below T106 m 48 #[.val (.int p0), .val (.int p1), .val (.int p2), .val (.int ss), .val (.int qq), .val (.int ee), .val (.double 0), .second, .val (.double 0), .second, .unset] [(.double 0), (.double 0)] _
      refine XS.dcmpS X106.here hx rfl (v := (0 : Int32)) (hb hby at_48) rfl (by decide +kernel) ?_
      show own_S p e below T106 m 49 #[.val (.int p0), .val (.int p1), .val (.int p2), .val (.int ss), .val (.int qq), .val (.int ee), .val (.double 0), .second, .val (.double 0), .second, .unset] [(.int 0)] _
      refine XS.ifNo X106.here hx rfl (hb hby at_49) rfl ((if0 _ _).trans (teq (by decide : (0 : Int32) = (0 : Int32))).2) ?_
      show own_S p e below T106 m 52 #[.val (.int p0), .val (.int p1), .val (.int p2), .val (.int ss), .val (.int qq), .val (.int ee), .val (.double 0), .second, .val (.double 0), .second, .unset] [] _
      refine XS.dload X106.here hx rfl (hb hby at_52) rfl ?_
      show own_S p e below T106 m 54 #[.val (.int p0), .val (.int p1), .val (.int p2), .val (.int ss), .val (.int qq), .val (.int ee), .val (.double 0), .second, .val (.double 0), .second, .unset] [(.double 0)] _
      refine XS.dconst0 X106.here hx rfl (v := 0) (hb hby at_54) rfl ?_
      show own_S p e below T106 m 55 #[.val (.int p0), .val (.int p1), .val (.int p2), .val (.int ss), .val (.int qq), .val (.int ee), .val (.double 0), .second, .val (.double 0), .second, .unset] [(.double 0), (.double 0)] _
      refine XS.dcmpS X106.here hx rfl (v := (0 : Int32)) (hb hby at_55) rfl (by decide +kernel) ?_
      show own_S p e below T106 m 56 #[.val (.int p0), .val (.int p1), .val (.int p2), .val (.int ss), .val (.int qq), .val (.int ee), .val (.double 0), .second, .val (.double 0), .second, .unset] [(.int 0)] _
      refine XS.ifNo X106.here hx rfl (hb hby at_56) rfl ((if0 _ _).trans (teq (by decide : (0 : Int32) = (0 : Int32))).2) ?_
      show own_S p e below T106 m 59 #[.val (.int p0), .val (.int p1), .val (.int p2), .val (.int ss), .val (.int qq), .val (.int ee), .val (.double 0), .second, .val (.double 0), .second, .unset] [] _
      refine XS.iconst X106.here hx rfl (hb hby at_59) ?_
      show own_S p e below T106 m 60 #[.val (.int p0), .val (.int p1), .val (.int p2), .val (.int ss), .val (.int qq), .val (.int ee), .val (.double 0), .second, .val (.double 0), .second, .unset] [(.int 1)] _
      refine XS.goto X106.here hx rfl (pc0 := 60) (pc' := 64) rfl (hb hby at_60) (by decide) (by decide) ?_
      show own_S p e below T106 m 64 #[.val (.int p0), .val (.int p1), .val (.int p2), .val (.int ss), .val (.int qq), .val (.int ee), .val (.double 0), .second, .val (.double 0), .second, .unset] [(.int 1)] _
      exact retN X106 hx (t := .boolean) Bd.returns (by simp) (hb hby at_64) hr
    · show Qm0 Z p0 p1 p2 h0 n0 _ T106.heap _
      rw [P106_0]
      exact ⟨rfl, N106⟩
set_option maxRecDepth 65536 in
set_option maxHeartbeats 40000000 in
theorem comes_1 {Post : Tables → Env → Array Value → State → Outcome → State → Prop} (hpost : ∀ tb e args s v u, (limb_1_1.after args s (.returned v) u = true ∧ limb_1_2.after args s (.returned v) u = true ∧ True) → FrameEnd s (.returned v) u (Jvm.fieldLocs frame_1_writes args s ++ Jvm.arrayLocs frame_1_arrays args s ++ Jvm.staticLocs frame_1_statics s) 0 0 → Post tb e args s (.returned v) u) :
    ArmFor flags0 classFile x code maxLocals ret World_1 tables_1 room_1 Calls_1 rest_1 Pre_1 Post := by
  intro l hfl _ _ p e ha hc hk s m args below hf hA hF happ hP
  obtain ⟨hcalls, hrest, hpre⟩ := hP
  obtain ⟨-, -, -, hnamed, -, -, -, hat⟩ := (Spec.applies_iff hf).mp happ
  obtain ⟨hg, hn⟩ := and_e (Cond.before_iff.mp (show (Jvm.Cond.and given_1 narrow_1).before args s = true from hpre))
  obtain ⟨hcount, hg0⟩ := and_e hg
  obtain ⟨hv0, hg1⟩ := and_e hg0
  obtain ⟨hv1, hg2⟩ := and_e hg1
  obtain ⟨w0, w1, w2, rfl⟩ : ∃ w0 w1 w2 : Value, args = #[w0, w1, w2] := by
    have hs : args.size = 3 := by simpa [Cond.value, given_1] using hcount
    obtain ⟨L⟩ := args
    match L, hs with
    | [w0, w1, w2], _ => exact ⟨w0, w1, w2, rfl⟩
  have hw := fun d (hd : d ∈ tables_1) => atoms_spec (ws := Jvm.Cond.code x code maxLocals ret :: tables_1) hat d (List.mem_cons_of_mem _ hd)
  have hfit : Fit s := fun {y c} hc i hi => by
    obtain ⟨ha, rfl⟩ := Array.getElem?_eq_some_iff.mp hc
    have q := List.all_eq_true.mp ((Array.all_eq_true_iff_forall_mem.mp hF) _ (Array.getElem_mem ha)) i (List.mem_range.mpr hi)
    simpa [Array.getElem?_eq_getElem hi] using q
  obtain ⟨i0, ei0⟩ := is_v hv0
  obtain rfl : w0 = (.int i0) := Option.some.inj ei0
  obtain ⟨i1, ei1⟩ := is_v hv1
  obtain rfl : w1 = (.int i1) := Option.some.inj ei1
  obtain ⟨i2, ei2⟩ := is_v hg2
  obtain rfl : w2 = (.int i2) := Option.some.inj ei2
  obtain ⟨n, o, h1, h2, h3, _, L, rfl, ⟨rfl, N⟩, hq⟩ := rmm0 l s _ hw tables_1 i0 i1 i2 s.heap s.heap.size (Nat.le_refl _)  p e ha hc hk s m _ below hf ((Spec.applies_iff_loose hf).mp happ).1 ⟨rfl, State.Warmed39.refl s, rfl⟩ trivial
  refine ⟨n, _, h1, h2, h3, hpost _ _ _ _ _ _ ⟨Cond.after_iff.mpr rfl, Cond.after_iff.mpr (eq_i res_at (Term.int_eval (1)) rfl), trivial⟩ ⟨hq.1, hq.2.1, (hq.2.2.sift fun y hy => Or.inr (N y hy)).mono (by decide) (by decide)⟩⟩
theorem main_1_1 : Claimed_1_1 := comes_1 fun _ _ _ _ _ _ h hF => ⟨h.1, hF⟩
theorem main_1_2 : Claimed_1_2 := comes_1 fun _ _ _ _ _ _ h hF => ⟨h.2.1, hF⟩
end Jvm.Pilot.@@N@@
namespace Jvm.Pilot.@@N@@
open Jvm Jvm.ClassFile Sem Op Lib Jvm.Free Jvm.Stand Jvm.Pilot.@@N@@.Jvm.D
/-! MADE BY PROGRAM (witnessworld.py) out of the Statement's table words and the real class files: 9 classes; the members and pool entries that the words name. The judged class is class 1, her method 1. -/
namespace start1
open Jvm.ClassFile
def u (s : String) : CpInfo := .utf8 (stringToUtf16 s)
/-- a pool by its gaps: so many unusable entries, then the entry; so many at the end -/
def gap : Nat → List CpInfo → List CpInfo
  | 0, r => r
  | n + 1, r => .unusable :: gap n r
def poolList (es : List (Nat × CpInfo)) (last : Nat) : List CpInfo := es.foldr (fun e r => gap e.1 (e.2 :: r)) (gap last [])
def pool (es : List (Nat × CpInfo)) (last : Nat) : Array CpInfo := ⟨poolList es last⟩
def fileOf (pool : Array CpInfo) (this : Nat) (attrs : Array Attribute := #[]) (ms : Array MethodInfo := #[]) (fl : Nat := 33) (sup : Nat := 0) (ifs : Array Nat := #[]) (fds : Array FieldInfo := #[]) : ClassFile where
  minorVersion := 0
  majorVersion := 65
  constantPool := pool
  accessFlags := fl
  thisClass := this
  superClass := sup
  interfaces := ifs
  fields := fds
  methods := ms
  attributes := attrs
def plain (name : String) (sup : Option ClassId) : Class where
  name := name
  kind := .ordinary
  loader := none
  accessFlags := 33
  super := sup
  interfaces := #[]
  cf := none
  fields := #[]
  methods := #[]
  instanceTypes := #[]
  staticTypes := #[]
  resolved := #[]
  callSites := []
  init := .initialized
  statics := none
  mirror := none

def pool0 : Array CpInfo := pool [(5, u "<init>"), (0, u "()V"), (1, .class_ 10), (1, u "java/lang/Object")] 113

def k0m0 : Method := { name := "<init>", desc := "()V", sig := { parameters := [], returnType := none }, accessFlags := 1, code := none }
/-- java/lang/Object -/
def k0 : Class := { plain "java/lang/Object" none with
  accessFlags := 33
  interfaces := #[]
  cf := some (fileOf pool0 8 #[] #[{ accessFlags := 1, nameIndex := 5, descriptorIndex := 6, attributes := #[] }] 33 0 #[] #[])
  fields := #[]
  methods := #[k0m0]
  instanceTypes := #[]
  staticTypes := #[]
  resolved := Array.replicate 124 none
  statics := none }

def pool1 : Array CpInfo := pool [(2, .class_ 4), (1, u "java/lang/Object"), (0, u "<init>"), (0, u "()V"), (0, .integer 1000001), (0, .methodref 9 10), (0, .class_ 11), (0, .nameAndType 12 13), (0, u "com/example/winnower/winnower/core/Reduction"), (0, u "relative"), (0, u "(DD)D"), (0, .class_ 15), (0, u "com/example/winnower/winnower/core/ReductionRelativePinLaw"), (2, u "law"), (0, u "(III)Z")] 3

def k1m0 : Method := { name := "<init>", desc := "()V", sig := { parameters := [], returnType := none }, accessFlags := 1, code := none }
def k1c1 : Code := { maxStack := 4, maxLocals := 11, code := code, exceptionTable := #[], attributes := #[] }
def k1m1 : Method := { name := "law", desc := "(III)Z", sig := { parameters := [.int, .int, .int], returnType := some .boolean }, accessFlags := 9, code := some k1c1 }
/-- com/example/winnower/winnower/core/ReductionRelativePinLaw -/
def k1 : Class := { plain "com/example/winnower/winnower/core/ReductionRelativePinLaw" (some 0) with
  accessFlags := 49
  interfaces := #[]
  cf := some (fileOf pool1 14 #[] #[{ accessFlags := 1, nameIndex := 5, descriptorIndex := 6, attributes := #[] }, { accessFlags := 9, nameIndex := 18, descriptorIndex := 19, attributes := #[] }] 49 2 #[] #[])
  fields := #[]
  methods := #[k1m0, k1m1]
  instanceTypes := #[]
  staticTypes := #[]
  resolved := Array.replicate 23 none
  statics := none }

def pool2 : Array CpInfo := pool [(2, .class_ 4), (1, u "java/lang/Object"), (3, .class_ 10), (1, u "com/example/winnower/winnower/core/Reduction"), (0, u "original"), (0, u "Lcom/example/winnower/winnower/core/ScenarioSet;"), (2, u "kept"), (0, u "[I"), (2, u "reduced"), (102, u "relative"), (0, u "(DD)D")] 55

def k2c0 : Code := { maxStack := 4, maxLocals := 4, code := prog_23_method_7_code, exceptionTable := #[], attributes := #[] }
def k2m0 : Method := { name := "relative", desc := "(DD)D", sig := { parameters := [.double, .double], returnType := some .double }, accessFlags := 9, code := some k2c0 }
/-- com/example/winnower/winnower/core/Reduction -/
def k2 : Class := { plain "com/example/winnower/winnower/core/Reduction" (some 0) with
  accessFlags := 49
  interfaces := #[]
  cf := some (fileOf pool2 8 #[] #[{ accessFlags := 9, nameIndex := 122, descriptorIndex := 123, attributes := #[] }] 49 2 #[] #[{ accessFlags := 18, nameIndex := 11, descriptorIndex := 12, attributes := #[] }, { accessFlags := 18, nameIndex := 15, descriptorIndex := 16, attributes := #[] }, { accessFlags := 18, nameIndex := 19, descriptorIndex := 12, attributes := #[] }])
  fields := #[{ name := "original", type := (.object "com/example/winnower/winnower/core/ScenarioSet"), accessFlags := 18, slot := 0, constantValue := 0 }, { name := "kept", type := (.array .int), accessFlags := 18, slot := 1, constantValue := 0 }, { name := "reduced", type := (.object "com/example/winnower/winnower/core/ScenarioSet"), accessFlags := 18, slot := 2, constantValue := 0 }]
  methods := #[k2m0]
  instanceTypes := #[(.object "com/example/winnower/winnower/core/ScenarioSet"), (.array .int), (.object "com/example/winnower/winnower/core/ScenarioSet")]
  staticTypes := #[]
  resolved := Array.replicate 179 none
  statics := none }

def pool3 : Array CpInfo := pool [(1, u "java/lang/Cloneable"), (0, .class_ 1), (0, u "java/lang/Object"), (0, .class_ 3)] 3

/-- java/lang/Cloneable -/
def k3 : Class := { plain "java/lang/Cloneable" (some 0) with
  accessFlags := 1537
  interfaces := #[]
  cf := some (fileOf pool3 2 #[] #[] 1537 4 #[] #[])
  fields := #[]
  methods := #[]
  instanceTypes := #[]
  staticTypes := #[]
  resolved := Array.replicate 8 none
  statics := none }

def pool4 : Array CpInfo := pool [(1, u "java/io/Serializable"), (0, .class_ 1), (0, u "java/lang/Object"), (0, .class_ 3)] 3

/-- java/io/Serializable -/
def k4 : Class := { plain "java/io/Serializable" (some 0) with
  accessFlags := 1537
  interfaces := #[]
  cf := some (fileOf pool4 2 #[] #[] 1537 4 #[] #[])
  fields := #[]
  methods := #[]
  instanceTypes := #[]
  staticTypes := #[]
  resolved := Array.replicate 8 none
  statics := none }

/-- the primitive byte -/
def k5 : Class := { plain "byte" none with kind := .primitive 'B', accessFlags := 0x411 }
/-- [B -/
def k6 : Class := { plain "[B" (some 0) with kind := .array 5 .byte, interfaces := #[3, 4], accessFlags := 1041 }

/-- the primitive int -/
def k7 : Class := { plain "int" none with kind := .primitive 'I', accessFlags := 0x411 }
/-- [I -/
def k8 : Class := { plain "[I" (some 0) with kind := .array 7 .int, interfaces := #[3, 4], accessFlags := 1041 }

def heap : Heap := #[]
def classes : Array Class := #[k0, k1, k2, k3, k4, k5, k6, k7, k8]
def interned : List (Array UInt16 × Addr) := []
def slotsUsed : Nat := 0
def theMethod : MethodId := ⟨1, 1⟩
def args0 : Array Value := #[.int 5, .int 6, .int 7]
def aboutOver (below : List Frame) : State where
  vm := { classes := classes, interned := interned.toArray }
  heap := heap
  slotsUsed := slotsUsed
  threads := #[{ frames := .invoking theMethod args0 :: below }]
def below0 : List Frame := [.native { method := ⟨0, 0⟩, args := #[] }]
def about1 : State := aboutOver below0
def p0 : Program := .bare "" "" ""
def e0 : Env := launch0.env 0 0 0
theorem w_frames : about1.frames = Frame.invoking theMethod args0 :: below0 := rfl
set_option maxRecDepth 65536 in
theorem w_args : argsFit about1.vm theMethod args0 = true := by decide +kernel
set_option maxRecDepth 65536 in
theorem w_heap : heapFits about1 = true := by decide +kernel
set_option maxRecDepth 65536 in
theorem w_runnable : about1.curStatus? = some .runnable := by decide +kernel
set_option maxRecDepth 65536 in
theorem w_alone : about1.alone = true := by decide +kernel
set_option maxRecDepth 65536 in
theorem w_named : about1.methodNamed? x = some theMethod := by decide +kernel
set_option maxRecDepth 65536 in
theorem w_hears : about1.hears theMethod below0 = true := by decide +kernel
set_option maxRecDepth 65536 in
theorem w_ripe : about1.ripe theMethod args0 below0 = true := by decide +kernel
theorem w_running : about1.status = .running := rfl
set_option maxRecDepth 65536 in
theorem w_room : about1.hasRoom e0.platform room_1 = true :=
  launch0.hasRoom_least _ room_1 (by decide +kernel) (by decide +kernel) (by decide +kernel) (by decide +kernel) (by decide +kernel) (by decide +kernel)
theorem allAtoms_all (ts : List Jvm.Cond) (a : Array Jvm.Value) (st : Jvm.State) : (allAtoms ts).before a st = ts.all (fun c => c.before a st) := by
  induction ts with
  | nil => rfl
  | cons c t ih =>
    show (Jvm.Cond.and c (allAtoms t)).before a st = _
    rw [Jvm.Cond.before_and, ih, List.all_cons]
def words1 : List Jvm.Cond := Jvm.Cond.code x code maxLocals ret :: tables_1
/-- a 'code' word, met by the world's own term for the bytes: nothing is compared byte by byte -/
theorem code_word {y : MethodName} {bytes : ByteArray} {mx : Nat} {rt : Option FieldType} {a : Array Value} {s : State} {m : MethodId} {meth : Method} {c : Code} (h1 : s.methodNamed? y = some m) (h2 : s.vm.method? m = some meth) (h3 : meth.code = some c) (h4 : c.code = bytes)
    (h5 : (c.maxLocals == mx && c.exceptionTable.isEmpty && decide (c.maxStack ≤ mostOperands) && decide (meth.sig.returnType = rt) && !meth.locks && decide (parseMethodDescriptor y.desc = some meth.sig)) = true) : (Jvm.Cond.code y bytes mx rt).before a s = true := by
  simp only [Bool.and_eq_true, beq_iff_eq, Bool.not_eq_true', decide_eq_true_eq] at h5
  obtain ⟨⟨⟨⟨⟨g1, g2⟩, g3⟩, g4⟩, g5⟩, g6⟩ := h5
  simp [Cond.before, Cond.holds, Cond.value, h1, h2, h3, h4, g1, g2, g3, g4, g5, g6]
def isCode : Jvm.Cond → Bool
  | .code _ _ _ _ => true
  | _ => false
theorem all_split {L : List Jvm.Cond} {P : Jvm.Cond → Bool} (h1 : L.all (fun c => isCode c || P c) = true) (h2 : ∀ c ∈ L.filter isCode, P c = true) : L.all P = true := by
  refine List.all_eq_true.mpr fun c hc => ?_
  have h := List.all_eq_true.mp h1 c hc
  rcases Bool.eq_false_or_eq_true (isCode c) with hi | hi
  · exact h2 c (List.mem_filter.mpr ⟨hc, hi⟩)
  · simpa [hi] using h
set_option maxRecDepth 65536 in
theorem w_c0 : (Jvm.Cond.code x code maxLocals ret).before args0 about1 = true := code_word (m := ⟨1, 1⟩) (meth := k1m1) (c := k1c1) (by decide +kernel) rfl rfl rfl (by decide +kernel)
set_option maxRecDepth 65536 in
theorem w_c1 : (Jvm.Cond.code ({ cls := "com/example/winnower/winnower/core/Reduction", name := "relative", desc := "(DD)D" } : Jvm.MethodName) prog_23_method_7_code (4 : Nat) (Option.some Jvm.ClassFile.FieldType.double)).before args0 about1 = true := code_word (m := ⟨2, 0⟩) (meth := k2m0) (c := k2c0) (by decide +kernel) rfl rfl rfl (by decide +kernel)
def codes1 : List Jvm.Cond := [Jvm.Cond.code x code maxLocals ret, Jvm.Cond.code ({ cls := "com/example/winnower/winnower/core/Reduction", name := "relative", desc := "(DD)D" } : Jvm.MethodName) prog_23_method_7_code (4 : Nat) (Option.some Jvm.ClassFile.FieldType.double)]
set_option maxRecDepth 65536 in
theorem codes_eq : words1.filter isCode = codes1 := rfl
theorem w_codes : ∀ c ∈ words1.filter isCode, c.before args0 about1 = true := by
  rw [codes_eq]
  intro c hc
  simp only [codes1, List.mem_cons, List.not_mem_nil, or_false] at hc
  rcases hc with rfl | rfl
  · exact w_c0
  · exact w_c1
set_option maxRecDepth 65536 in
theorem w_t1 : words1.all (fun c => isCode c || c.before args0 about1) = true := by decide +kernel
theorem w_tables : (allAtoms (Jvm.Cond.code x code maxLocals ret :: tables_1)).before args0 about1 = true := by
  rw [allAtoms_all]
  show words1.all (fun c => c.before args0 about1) = true
  refine all_split ?_ w_codes
  rw [w_t1]
set_option maxRecDepth 65536 in
theorem w_case : (Jvm.Cond.and given_1 narrow_1).before args0 about1 = true := by decide +kernel
theorem w_applies : (headSpec (Jvm.Cond.code x code maxLocals ret :: tables_1) room_1).applies x e0.platform about1 = true :=
  (Spec.applies_iff w_frames).mpr ⟨w_running, w_runnable, w_alone, w_named, w_hears, w_ripe, w_room, w_tables⟩
theorem atStart : AtStart classFile x code maxLocals ret World_1 tables_1 room_1 Calls_1 rest_1 Pre_1 launch0 p0 e0 about1 theMethod args0 below0 :=
  ⟨lists_1, trivial, launch0.admits_env _ _ _, launch0.least_env, fairChoices_fair.cas, fairChoices_fair.clock, w_frames, w_args, w_heap, w_applies, trivial, trivial, w_case⟩
end start1
theorem witness_1 : WitnessClaimed_1 := ⟨start1.p0, start1.e0, start1.about1, start1.theMethod, start1.args0, start1.below0, start1.atStart⟩
end Jvm.Pilot.@@N@@
