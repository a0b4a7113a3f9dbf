import JvmDerived
import JvmDerived.Pilot.@@N@@Statement
import JvmDerived.Pilot.@@N@@Code
set_option linter.unusedVariables false
set_option linter.unusedSimpArgs false
namespace Jvm.Pilot.@@N@@
open Jvm Jvm.ClassFile Sem Op Lib Jvm.Free Jvm.Stand Jvm.LawKit Jvm.RoadKit Bundle Jvm.Free.Fl Jvm.Pilot.@@N@@.Jvm.D
theorem own_w {a0 : Array Value} {Z : State} (hw : ∀ d ∈ tables_1, d.before a0 Z = true) (i : Nat) {d : Jvm.Cond} (h : tables_1[i]? = some d) : d.before a0 Z = true := hw _ (List.mem_of_getElem? h)
abbrev own_S (p : Program) (e : Env) (below : List Frame) (T : State) (m : MethodId) (pc : Nat) (Ls : Array Slot) (st : List Value) (t : State) : Prop := Steps p.tables e below (T.setTop (mkF m pc Ls st)) t
abbrev oI (x : Int32) : Slot := .val (.int x)
abbrev oJ (x : Int64) : Slot := .val (.long x)
abbrev oD (x : UInt64) : Slot := .val (.double x)
abbrev oR (x : Addr) : Slot := .val (.ref x)
abbrev oU : Slot := .unset
abbrev oV : Slot := .second
section Re
variable {tb : Tables} {e : Env} {below : List Frame} {T target : State} {m : MethodId} {pc : Nat} {Ls : Array Slot} {rest : List Value}
theorem reI {x y : Int32} (h : x = y) (k : Steps tb e below (T.setTop (mkF m pc Ls (.int y :: rest))) target) : Steps tb e below (T.setTop (mkF m pc Ls (.int x :: rest))) target := by rw [h]; exact k
theorem reJ {x y : Int64} (h : x = y) (k : Steps tb e below (T.setTop (mkF m pc Ls (.long y :: rest))) target) : Steps tb e below (T.setTop (mkF m pc Ls (.long x :: rest))) target := by rw [h]; exact k
theorem reD {x y : UInt64} (h : x = y) (k : Steps tb e below (T.setTop (mkF m pc Ls (.double y :: rest))) target) : Steps tb e below (T.setTop (mkF m pc Ls (.double x :: rest))) target := by rw [h]; exact k
theorem re2I {v : Value} {x y : Int32} (h : x = y) (k : Steps tb e below (T.setTop (mkF m pc Ls (v :: .int y :: rest))) target) : Steps tb e below (T.setTop (mkF m pc Ls (v :: .int x :: rest))) target := by rw [h]; exact k
theorem own_nnl {e v : UInt64} (h : e = v) (hv : NoNaN64 v) : NoNaN64 e := h ▸ hv
end Re
section OwnFloat
open Jvm.FP
/-- finite, and worth z units of 2^-1074 -/
def own_At (a : UInt64) (z : Int) : Prop := ∃ s c q, Core.val64 a = .fin s c q ∧ Core.signed s (Core.inUnits c q (-1074)) = z
/-- a magnitude that a double has exactly -/
def own_Rep (n : Nat) : Prop := ∃ m e : Nat, n = m * 2 ^ e ∧ m < 2 ^ 53 ∧ e ≤ 2045
theorem own_shift {A C a b a' b' : Nat} (h : A * 2 ^ a = C * 2 ^ b) (hab : a + b' = a' + b) : A * 2 ^ a' = C * 2 ^ b' := by
  have h1 : A * 2 ^ a' * 2 ^ b = C * 2 ^ b' * 2 ^ b := by
    calc A * 2 ^ a' * 2 ^ b = A * (2 ^ a' * 2 ^ b) := Nat.mul_assoc _ _ _
      _ = A * 2 ^ (a' + b) := by rw [Nat.pow_add]
      _ = A * 2 ^ (a + b') := by rw [hab]
      _ = A * 2 ^ a * 2 ^ b' := by rw [Nat.pow_add, Nat.mul_assoc]
      _ = C * 2 ^ b * 2 ^ b' := by rw [h]
      _ = C * 2 ^ b' * 2 ^ b := by rw [Nat.mul_assoc, Nat.mul_comm (2 ^ b), Nat.mul_assoc]
  exact Nat.eq_of_mul_eq_mul_right (Nat.two_pow_pos b) h1
theorem own_fit (s : Bool) {n : Nat} (h : own_Rep n) : ∃ c q, Core.fits Core.b64 (.fin s c q) ∧ Core.inUnits c q (-1074) = n := by
  obtain ⟨m, e, rfl, hm, he⟩ := h
  have h1 : Core.b64.qmin ≤ -1074 + (e : Int) := by rw [Core.qmin_b64]; omega
  have h2 : -1074 + (e : Int) ≤ Core.b64.qmax := by rw [show Core.b64.qmax = 971 by decide +kernel]; omega
  obtain ⟨c, q, hr, hu⟩ := Core.round_exact Core.good_b64 s (c := m) (q := -1074 + (e : Int)) hm h1 h2
  refine ⟨c, q, ?_, ?_⟩
  · rw [← hr]; exact Core.round_fits Core.good_b64 _
  · rw [Core.qmin_b64] at hu
    rw [hu]
    show m * 2 ^ (-1074 + (e : Int) - -1074).toNat = m * 2 ^ e
    congr 2
    omega
/-- rounding a ratio that a double has exactly -/
theorem own_rr {s : Bool} {A B n : Nat} {e : Int} (hB : 0 < B) (hn : own_Rep n) (h : A * 2 ^ (e + 1074).toNat = n * B * 2 ^ (-(e + 1074)).toNat) :
    ∃ c q, Core.roundRatio Core.b64 s A B e = .fin s c q ∧ Core.inUnits c q (-1074) = n := by
  obtain ⟨c, q, hf, hu⟩ := own_fit s hn
  refine ⟨c, q, Core.roundRatio_exact Core.good_b64 hB hf ?_, hu⟩
  have hq : -1074 ≤ q := by have := hf.2.1; rw [Core.qmin_b64] at this; exact this
  rw [← hu] at h
  unfold Core.inUnits at h
  have h' : A * 2 ^ (e + 1074).toNat = (c * B) * 2 ^ ((q - -1074).toNat + (-(e + 1074)).toNat) := by
    rw [h, Nat.pow_add]; simp only [Nat.mul_assoc, Nat.mul_left_comm, Nat.mul_comm]
  exact own_shift h' (by omega)
theorem own_at_fin {a : UInt64} {z : Int} (h : own_At a z) : Fin64 a := by
  obtain ⟨s, c, q, h, -⟩ := h
  exact fin64_core.mpr ⟨s, c, q, h⟩
theorem own_at_nn {a : UInt64} {z : Int} (h : own_At a z) : NoNaN64 a := (own_at_fin h).noNaN
theorem own_at_val {a : UInt64} {z : Int} (h : own_At a z) : Core.val64 a ≠ .nan ∧ Core.zval Core.b64 (Core.val64 a) = z := by
  obtain ⟨s, c, q, h, hz⟩ := h
  rw [h]
  refine ⟨nofun, ?_⟩
  show Core.signed s (Core.inUnits c q Core.b64.qmin) = z
  rw [Core.qmin_b64]; exact hz
theorem own_cmp {a b : UInt64} {x y : Int} (ha : own_At a x) (hb : own_At b y) : FP.dcmp a b = some (compare x y) := by
  have h1 := own_at_val ha; have h2 := own_at_val hb
  rw [← h1.2, ← h2.2]; exact Core.dcmp_zval h1.1 h2.1
theorem own_cmpV {a b : UInt64} {x y : Int} (ha : own_At a x) (hb : own_At b y) (o : CmpOp) : cmpValue (FP.dcmp a b) o = if x < y then -1 else if x = y then 0 else 1 := by
  rw [own_cmp ha hb]
  rcases Int.lt_trichotomy x y with h | h | h
  · rw [if_pos h, show compare x y = .lt from by simp [compare, compareOfLessAndEq, h]]; cases o <;> rfl
  · rw [if_neg (by omega), if_pos h, show compare x y = .eq from by subst h; simp [compare, compareOfLessAndEq]]; cases o <;> rfl
  · rw [if_neg (by omega), if_neg (by omega), show compare x y = .gt from by simp [compare, compareOfLessAndEq, show ¬ x < y by omega, show ¬ x = y by omega]]; cases o <;> rfl
theorem own_eqV {a b : UInt64} {x y : Int} (ha : own_At a x) (hb : own_At b y) (h : x = y) (o : CmpOp) : cmpValue (FP.dcmp a b) o = 0 := by
  rw [own_cmpV ha hb, if_neg (by omega), if_pos h]
theorem own_int {i : Int} {a : UInt64} (h : Core.DInt i a) : own_At a (i * (Core.one64 : Int)) := by
  have hz := Core.DInt_zval h
  unfold Core.DInt at h
  cases e : Core.val64 a with
  | nan => rw [e] at h; exact h.elim
  | inf s => rw [e] at h; exact h.elim
  | fin s c q =>
    refine ⟨s, c, q, e, ?_⟩
    rw [e] at hz
    rw [← hz]
    show _ = Core.signed s (Core.inUnits c q Core.b64.qmin)
    rw [Core.qmin_b64]
theorem own_dint_fin {i : Int} {a : UInt64} (h : Core.DInt i a) : Fin64 a := own_at_fin (own_int h)
theorem own_dint_nn {i : Int} {a : UInt64} (h : Core.DInt i a) : NoNaN64 a := (own_dint_fin h).noNaN
theorem own_icmp {a b : UInt64} {x y : Int} (ha : Core.DInt x a) (hb : Core.DInt y b) (o : CmpOp) : cmpValue (FP.dcmp a b) o = if x < y then -1 else if x = y then 0 else 1 := by
  rw [show FP.dcmp a b = some (compare x y) from Core.dcmp_int ha hb]
  rcases Int.lt_trichotomy x y with h | h | h
  · rw [if_pos h, show compare x y = .lt from by simp [compare, compareOfLessAndEq, h]]; cases o <;> rfl
  · rw [if_neg (by omega), if_pos h, show compare x y = .eq from by subst h; simp [compare, compareOfLessAndEq]]; cases o <;> rfl
  · rw [if_neg (by omega), if_neg (by omega), show compare x y = .gt from by simp [compare, compareOfLessAndEq, show ¬ x < y by omega, show ¬ x = y by omega]]; cases o <;> rfl
theorem own_ieq {a b : UInt64} {x y : Int} (ha : Core.DInt x a) (hb : Core.DInt y b) (h : x = y) (o : CmpOp) : cmpValue (FP.dcmp a b) o = 0 := by
  rw [own_icmp ha hb, if_neg (by omega), if_pos h]
/-- the quotient of two whole numbers, as one rounding of their ratio -/
theorem own_quot {i j : Int} {a b : UInt64} (ha : Core.DInt i a) (hb : Core.DInt j b) (hj : j ≠ 0) :
    ∃ s, Core.val64 (FP.ddiv a b) = Core.roundRatio Core.b64 s i.natAbs j.natAbs 0 ∧ (i ≠ 0 → s = (decide (i < 0) != decide (j < 0))) := by
  show ∃ s, Core.val64 (Core.ddiv a b) = _ ∧ _
  rw [Core.val64_ddiv]
  unfold Core.DInt at ha hb
  generalize Core.val64 a = x at ha
  generalize Core.val64 b = y at hb
  cases x with
  | nan => exact ha.elim
  | inf => exact ha.elim
  | fin s c q =>
  cases y with
  | nan => exact hb.elim
  | inf => exact hb.elim
  | fin t d r =>
    have hd : d ≠ 0 := fun h => hj ((Core.whole_zero hb).mp h)
    refine ⟨s != t, ?_, fun hi => by rw [Core.whole_sign ha hi, Core.whole_sign hb hj]⟩
    show (if d = 0 then _ else Core.roundRatio Core.b64 (s != t) c d (q - r)) = _
    rw [if_neg hd]
    refine Core.roundRatio_congr (by omega) (by omega) ?_
    have h1 := Core.whole_natAbs ha
    have h2 := Core.whole_natAbs hb
    have h3 : (c * j.natAbs) * 2 ^ (q.toNat + (-r).toNat) = (i.natAbs * d) * 2 ^ ((-q).toNat + r.toNat) := by
      calc (c * j.natAbs) * 2 ^ (q.toNat + (-r).toNat) = (c * 2 ^ q.toNat) * (j.natAbs * 2 ^ (-r).toNat) := by rw [Nat.pow_add]; simp only [Nat.mul_assoc, Nat.mul_left_comm, Nat.mul_comm]
        _ = (i.natAbs * 2 ^ (-q).toNat) * (d * 2 ^ r.toNat) := by rw [h1, h2]
        _ = (i.natAbs * d) * 2 ^ ((-q).toNat + r.toNat) := by rw [Nat.pow_add]; simp only [Nat.mul_assoc, Nat.mul_left_comm, Nat.mul_comm]
    exact own_shift h3 (by omega)
/-- a quotient that comes out whole -/
theorem own_ddiv {i j k : Int} {a b : UInt64} (ha : Core.DInt i a) (hb : Core.DInt j b) (hj : j ≠ 0) (hk : i = k * j) (hs : k.natAbs ≤ 2 ^ 53) : Core.DInt k (FP.ddiv a b) := by
  obtain ⟨s, hv, hsgn⟩ := own_quot ha hb hj
  unfold Core.DInt
  rw [hv]
  have hw : Core.Whole k (.fin s k.natAbs 0) := by
    show Core.signed s (k.natAbs * 2 ^ (0 : Int).toNat) = k * ((2 ^ (-(0 : Int)).toNat : Nat) : Int)
    by_cases h0 : k = 0
    · subst h0; simp [Core.signed]
    · have hi : i ≠ 0 := by rw [hk]; exact Int.mul_ne_zero h0 hj
      have hsk : s = decide (k < 0) := by
        rw [hsgn hi, hk]
        rcases Int.lt_or_gt_of_ne h0 with a1 | a1 <;> rcases Int.lt_or_gt_of_ne hj with a2 | a2
        · have := Int.mul_pos_of_neg_of_neg a1 a2; simp [show ¬ k * j < 0 by omega, a1, a2]
        · have := Int.mul_neg_of_neg_of_pos a1 a2; simp [this, a1, show ¬ j < 0 by omega]
        · have := Int.mul_neg_of_pos_of_neg a1 a2; simp [this, show ¬ k < 0 by omega, a2]
        · have := Int.mul_pos a1 a2; simp [show ¬ k * j < 0 by omega, show ¬ k < 0 by omega, show ¬ j < 0 by omega]
      rw [hsk]
      by_cases hn : k < 0
      · simp [Core.signed, hn]; omega
      · simp [Core.signed, hn]; omega
  have h1 : Core.roundRatio Core.b64 s i.natAbs j.natAbs 0 = Core.round Core.b64 (.fin s k.natAbs 0) := by
    show _ = Core.roundRatio Core.b64 s k.natAbs 1 0
    refine Core.roundRatio_congr (by omega) (by omega) ?_
    rw [hk, Int.natAbs_mul]; simp
  rw [h1]
  exact Core.whole_round Core.good_b64 Core.wide_b64 hs hw
theorem own_zv {s : Bool} {c : Nat} {q x : Int} (h : Core.signed s (Core.inUnits c q (-1074)) = x) : Core.zval Core.b64 (.fin s c q) = x := by
  show Core.signed s (Core.inUnits c q Core.b64.qmin) = x
  rw [Core.qmin_b64]; exact h
theorem own_sg {s : Bool} {k : Nat} {z : Int} (h : Core.signed s k = z) : Core.signed s z.natAbs = z := by rw [← h, Core.natAbs_signed]
theorem own_sum {a b : UInt64} {x y : Int} (ha : own_At a x) (hb : own_At b y) (hr : own_Rep (x + y).natAbs) : own_At (FP.dadd a b) (x + y) := by
  obtain ⟨s, c, q, ea, hx⟩ := ha
  obtain ⟨t, d, r, eb, hy⟩ := hb
  have fa := Core.val64_fits a; rw [ea] at fa
  have fb := Core.val64_fits b; rw [eb] at fb
  obtain ⟨sg, n, e, he, hq, hs⟩ := Core.sum_units fa fb
  rw [own_zv hx, own_zv hy, Core.qmin_b64] at hs
  rw [Core.qmin_b64] at hq
  have hn : n * 2 ^ (e + 1074).toNat = (x + y).natAbs := by
    rw [← hs, Core.natAbs_signed]; unfold Core.inUnits; congr 2
  obtain ⟨c', q', hr', hu⟩ := own_rr (s := sg) (A := n) (B := 1) (e := e) (by decide) hr (by rw [hn, show (-(e + 1074)).toNat = 0 by omega]; simp)
  refine ⟨sg, c', q', ?_, ?_⟩
  · show Core.val64 (Core.dadd a b) = _
    rw [Core.val64_dadd, ea, eb, he]; exact hr'
  · rw [hu]; exact own_sg hs
theorem own_neg {a : UInt64} {x : Int} (ha : own_At a x) : own_At (FP.dneg a) (-x) := by
  obtain ⟨s, c, q, ea, hx⟩ := ha
  refine ⟨!s, c, q, ?_, ?_⟩
  · rw [FP.val64_dneg, ea]; rfl
  · rw [← hx]; cases s <;> simp [Core.signed]
theorem own_sub {a b : UInt64} {x y : Int} (ha : own_At a x) (hb : own_At b y) (hr : own_Rep (x - y).natAbs) : own_At (FP.dsub a b) (x - y) := by
  obtain ⟨s, c, q, ea, hx⟩ := ha
  obtain ⟨t, d, r, eb, hy⟩ := hb
  have fa := Core.val64_fits a; rw [ea] at fa
  have fb := Core.val64_fits b; rw [eb] at fb
  have fb' : Core.fits Core.b64 (.fin (!t) d r) := fb
  have hy' : Core.signed (!t) (Core.inUnits d r (-1074)) = -y := by rw [← hy]; cases t <;> simp [Core.signed]
  obtain ⟨sg, n, e, he, hq, hs⟩ := Core.sum_units fa fb'
  rw [own_zv hx, own_zv hy', Core.qmin_b64, ← Int.sub_eq_add_neg] at hs
  rw [Core.qmin_b64] at hq
  have hn : n * 2 ^ (e + 1074).toNat = (x - y).natAbs := by
    rw [← hs, Core.natAbs_signed]; unfold Core.inUnits; congr 2
  obtain ⟨c', q', hr', hu⟩ := own_rr (s := sg) (A := n) (B := 1) (e := e) (by decide) hr (by rw [hn, show (-(e + 1074)).toNat = 0 by omega]; simp)
  refine ⟨sg, c', q', ?_, ?_⟩
  · show Core.val64 (Core.dsub a b) = _
    rw [Core.val64_dsub, ea, eb]
    show Core.round Core.b64 (Core.exactSum (.fin s c q) (.fin (!t) d r)) = _
    rw [he]; exact hr'
  · rw [hu]; exact own_sg hs
theorem own_mul {a b : UInt64} {x y z : Int} (ha : own_At a x) (hb : own_At b y) (hz : x * y = z * (Core.one64 : Int)) (hr : own_Rep z.natAbs) : own_At (FP.dmul a b) z := by
  obtain ⟨s, c, q, ea, hx⟩ := ha
  obtain ⟨t, d, r, eb, hy⟩ := hb
  have fa := Core.val64_fits a; rw [ea] at fa
  have fb := Core.val64_fits b; rw [eb] at fb
  obtain ⟨he, hq, hu⟩ := Core.product_units fa fb
  rw [Core.qmin_b64] at hq hu
  have hX : Core.zmag Core.b64 (.fin s c q) = x.natAbs := by
    rw [← hx, Core.natAbs_signed]; show Core.inUnits c q Core.b64.qmin = _; rw [Core.qmin_b64]
  have hY : Core.zmag Core.b64 (.fin t d r) = y.natAbs := by
    rw [← hy, Core.natAbs_signed]; show Core.inUnits d r Core.b64.qmin = _; rw [Core.qmin_b64]
  have hN : x.natAbs * y.natAbs = z.natAbs * 2 ^ 1074 := by
    have := congrArg Int.natAbs hz
    rw [Int.natAbs_mul, Int.natAbs_mul, Int.natAbs_natCast] at this
    exact this
  rw [hX, hY, hN] at hu
  have hu' : c * d * 2 ^ (q + r + 2148).toNat = z.natAbs * 2 ^ 1074 := by
    rw [← hu]; unfold Core.inUnits; congr 2
  obtain ⟨c', q', hr', hw⟩ := own_rr (s := s != t) (A := c * d) (B := 1) (e := q + r) (by decide) hr (by rw [Nat.mul_one]; exact own_shift hu' (by omega))
  refine ⟨s != t, c', q', ?_, ?_⟩
  · show Core.val64 (Core.dmul a b) = _
    rw [Core.val64_dmul, ea, eb, he]; exact hr'
  · rw [hw]
    have p : (Core.one64 : Int) ≠ 0 := by have := Core.one64_pos; omega
    refine Int.eq_of_mul_eq_mul_right p ?_
    rw [← hz, ← Core.signed_mul, show z.natAbs * Core.one64 = x.natAbs * y.natAbs from hN.symm, Core.signed_xor, own_sg hx, own_sg hy]
theorem own_div {a b : UInt64} {x y z : Int} (ha : own_At a x) (hb : own_At b y) (h0 : y ≠ 0) (hz : x * (Core.one64 : Int) = z * y) (hr : own_Rep z.natAbs) : own_At (FP.ddiv a b) z := by
  obtain ⟨s, c, q, ea, hx⟩ := ha
  obtain ⟨t, d, r, eb, hy⟩ := hb
  have fa := Core.val64_fits a; rw [ea] at fa
  have fb := Core.val64_fits b; rw [eb] at fb
  have hq : -1074 ≤ q := by have := fa.2.1; rw [Core.qmin_b64] at this; exact this
  have hq2 : -1074 ≤ r := by have := fb.2.1; rw [Core.qmin_b64] at this; exact this
  have hd : d ≠ 0 := fun h => h0 (by rw [← hy, h]; unfold Core.inUnits; rw [Nat.zero_mul]; exact Core.signed_zero t)
  have hX : c * 2 ^ (q + 1074).toNat = x.natAbs := by
    rw [← hx, Core.natAbs_signed]; unfold Core.inUnits; congr 2
  have hY : d * 2 ^ (r + 1074).toNat = y.natAbs := by
    rw [← hy, Core.natAbs_signed]; unfold Core.inUnits; congr 2
  have hN : x.natAbs * 2 ^ 1074 = z.natAbs * y.natAbs := by
    have := congrArg Int.natAbs hz
    rw [Int.natAbs_mul, Int.natAbs_mul, Int.natAbs_natCast] at this
    exact this
  have hu : c * 2 ^ ((q + 1074).toNat + 1074) = (z.natAbs * d) * 2 ^ (r + 1074).toNat := by
    rw [Nat.pow_add, ← Nat.mul_assoc, hX, hN, ← hY, Nat.mul_assoc]
  obtain ⟨c', q', hr', hw⟩ := own_rr (s := s != t) (A := c) (B := d) (e := q - r) (by omega) hr (own_shift hu (by omega))
  refine ⟨s != t, c', q', ?_, ?_⟩
  · show Core.val64 (Core.ddiv a b) = _
    rw [Core.val64_ddiv, ea, eb]
    show (if d = 0 then _ else Core.roundRatio Core.b64 (s != t) c d (q - r)) = _
    rw [if_neg hd]; exact hr'
  · rw [hw]
    refine Int.eq_of_mul_eq_mul_right h0 ?_
    have e1 : Core.signed (s != t) z.natAbs * Core.signed t y.natAbs = Core.signed s (z.natAbs * y.natAbs) := by
      rw [← Core.signed_xor, show ((s != t) != t) = s by cases s <;> cases t <;> rfl]
    rw [own_sg hy] at e1
    rw [e1, ← hz, ← hN, Core.signed_mul, own_sg hx]
    rfl
end OwnFloat
section OwnInt
theorem own_lmul {x y : Int64} {A B : Nat} (hx : x.toInt.natAbs ≤ A) (hy : y.toInt.natAbs ≤ B) (h : A * B < 2 ^ 62) : (x * y).toInt = x.toInt * y.toInt := by
  have hb : (x.toInt * y.toInt).natAbs ≤ A * B := by rw [Int.natAbs_mul]; exact Nat.mul_le_mul hx hy
  rw [Int64.toInt_mul]; exact Int.bmod_eq_of_le (by omega) (by omega)
theorem own_ladd {x y : Int64} {A B : Nat} (hx : x.toInt.natAbs ≤ A) (hy : y.toInt.natAbs ≤ B) (h : A + B < 2 ^ 62) : (x + y).toInt = x.toInt + y.toInt := by
  rw [Int64.toInt_add]; exact Int.bmod_eq_of_le (by omega) (by omega)
theorem own_lsub {x y : Int64} {A B : Nat} (hx : x.toInt.natAbs ≤ A) (hy : y.toInt.natAbs ≤ B) (h : A + B < 2 ^ 62) : (x - y).toInt = x.toInt - y.toInt := by
  rw [Int64.toInt_sub]; exact Int.bmod_eq_of_le (by omega) (by omega)
theorem own_maskL {x m : Int64} {k : Nat} (hk : k ≤ 63) (hm : m.toBitVec.toNat = 2 ^ k - 1) : 0 ≤ (x &&& m).toInt ∧ (x &&& m).toInt < ((2 ^ k : Nat) : Int) := by
  rw [c_maskL x m k hk hm]
  have p : (0 : Int) < ((2 ^ k : Nat) : Int) := by have := Nat.two_pow_pos k; omega
  exact ⟨Int.emod_nonneg _ (by omega), Int.emod_lt_of_pos _ p⟩
theorem own_maskI {x m : Int32} {k : Nat} (hk : k ≤ 31) (hm : m.toBitVec.toNat = 2 ^ k - 1) : 0 ≤ (x &&& m).toInt ∧ (x &&& m).toInt < ((2 ^ k : Nat) : Int) := by
  rw [c_mask x m k hk hm]
  have p : (0 : Int) < ((2 ^ k : Nat) : Int) := by have := Nat.two_pow_pos k; omega
  exact ⟨Int.emod_nonneg _ (by omega), Int.emod_lt_of_pos _ p⟩
theorem own_cases32 {x : Int32} {n : Nat} (h0 : 0 ≤ x.toInt) (h1 : x.toInt < (n : Int)) : ∃ k : Nat, k < n ∧ x = Int32.ofNat k := by
  refine ⟨x.toInt.toNat, by omega, ?_⟩
  apply Int32.toInt_inj.mp
  have hx := x.toInt_lt
  rw [Int32.toInt_ofNat_of_lt (by omega)]
  omega
theorem own_irem {x z m : Int32} (h : z = x % m) {M : Int} (hm : m.toInt = M) (hM : 0 < M) : -M < z.toInt ∧ z.toInt < M ∧ (0 ≤ x.toInt → 0 ≤ z.toInt) := by
  have q := c_irem x m M hm
  rcases (by omega : x.toInt < 0 ∨ 0 ≤ x.toInt) with a | a
  · have := q.2 a; rw [← h] at this
    have b1 := Int.emod_nonneg (-x.toInt) (show M ≠ 0 by omega); have b2 := Int.emod_lt_of_pos (-x.toInt) hM
    omega
  · have := q.1 a; rw [← h] at this
    have b1 := Int.emod_nonneg x.toInt (show M ≠ 0 by omega); have b2 := Int.emod_lt_of_pos x.toInt hM
    omega
theorem own_ple {j k : Nat} (h : j ≤ k) : (2 : Int) ^ j ≤ 2 ^ k := by
  have h1 : ((2 ^ j : Nat) : Int) = (2 : Int) ^ j := Int.natCast_pow 2 j
  have h2 : ((2 ^ k : Nat) : Int) = (2 : Int) ^ k := Int.natCast_pow 2 k
  have h3 : 2 ^ j ≤ 2 ^ k := Nat.pow_le_pow_right (by decide) h
  rw [← h1, ← h2]; omega
end OwnInt
def own_at (s0 s1 s2 i : Int32) : Int32 := if i = 0 then s0 else if i = 1 then s1 else s2
def own_atD (f0 f1 : UInt64) (w : Int32) : UInt64 := if w = 0 then f0 else f1
def own_p (j i x s : Int32) : Int32 := if i = j then x else s
abbrev own_St : Type := Int32 × Int32 × Int32 × Int32 × Int32 × Int32 × Int32
abbrev own_St.c0 (t : own_St) : Int32 := t.1
abbrev own_St.c1 (t : own_St) : Int32 := t.2.1
abbrev own_St.c2 (t : own_St) : Int32 := t.2.2.1
abbrev own_St.m0 (t : own_St) : Int32 := t.2.2.2.1
abbrev own_St.m1 (t : own_St) : Int32 := t.2.2.2.2.1
abbrev own_St.m2 (t : own_St) : Int32 := t.2.2.2.2.2.1
abbrev own_St.r (t : own_St) : Int32 := t.2.2.2.2.2.2
def own_w1 (s : Int32) : Int32 := if 1 < s then 0 else -1
def own_w2 (x : Bool) (s w : Int32) : Int32 := if 1 < s then (if w < 0 then 1 else if x = true then 1 else w) else w
def own_w3 (y z : Bool) (s w : Int32) : Int32 := if 1 < s then (if w < 0 then 2 else if (if w = 0 then y else z) = true then 2 else w) else w
def own_worst (x y z : Bool) (t : own_St) : Int32 := own_w3 y z (own_at t.c0 t.c1 t.c2 t.m2) (own_w2 x (own_at t.c0 t.c1 t.c2 t.m1) (own_w1 (own_at t.c0 t.c1 t.c2 t.m0)))
def own_dec (t : own_St) (w j c : Int32) : Int32 := own_p j (own_at t.m0 t.m1 t.m2 w) (own_at t.c0 t.c1 t.c2 (own_at t.m0 t.m1 t.m2 w) - 1) c
def own_inc (e j c : Int32) : Int32 := if e = j then c + 1 else c
def own_upd (x y z : Bool) (e : Int32) (t : own_St) : own_St := ⟨own_inc e 0 (own_dec t (own_worst x y z t) 0 t.c0), own_inc e 1 (own_dec t (own_worst x y z t) 1 t.c1), own_inc e 2 (own_dec t (own_worst x y z t) 2 t.c2), own_p 0 (own_worst x y z t) e t.m0, own_p 1 (own_worst x y z t) e t.m1, own_p 2 (own_worst x y z t) e t.m2, 1⟩
def own_iter (x y z : Bool) (e : Int32) (t : own_St) : own_St := if 0 < own_at t.c0 t.c1 t.c2 e then t else own_upd x y z e t
def own_u (a j : Int32) : Int32 := own_p j a (own_at 0 0 0 a + 1) 0
def own_v (ma0 ma1 j : Int32) : Int32 := own_p j ma1 (own_at (own_u ma0 0) (own_u ma0 1) (own_u ma0 2) ma1 + 1) (own_u ma0 j)
def own_q (ma0 ma1 ma2 j : Int32) : Int32 := own_p j ma2 (own_at (own_v ma0 ma1 0) (own_v ma0 ma1 1) (own_v ma0 ma1 2) ma2 + 1) (own_v ma0 ma1 j)
def own_F0 (x y z : Bool) (ma0 ma1 ma2 : Int32) : own_St := ⟨own_q ma0 ma1 ma2 0, own_q ma0 ma1 ma2 1, own_q ma0 ma1 ma2 2, ma0, ma1, ma2, 0⟩
def own_F1 (x y z : Bool) (ma0 ma1 ma2 : Int32) : own_St := own_iter x y z 0 (own_F0 x y z ma0 ma1 ma2)
def own_F2 (x y z : Bool) (ma0 ma1 ma2 : Int32) : own_St := own_iter x y z 1 (own_F1 x y z ma0 ma1 ma2)
def own_F3 (x y z : Bool) (ma0 ma1 ma2 : Int32) : own_St := own_iter x y z 2 (own_F2 x y z ma0 ma1 ma2)
theorem own_itp {x y z : Bool} {e : Int32} {t : own_St} (h : 0 < own_at t.c0 t.c1 t.c2 e) : own_iter x y z e t = t := if_pos h
theorem own_itn {x y z : Bool} {e : Int32} {t : own_St} (h : ¬ 0 < own_at t.c0 t.c1 t.c2 e) : own_iter x y z e t = own_upd x y z e t := if_neg h
theorem own_updE {x y z : Bool} {e c0 c1 c2 m0 m1 m2 r w1 w2 w3 mw d0 d1 d2 n0 n1 n2 : Int32} (h1 : w1 = own_w1 (own_at c0 c1 c2 m0)) (h2 : w2 = own_w2 x (own_at c0 c1 c2 m1) w1) (h3 : w3 = own_w3 y z (own_at c0 c1 c2 m2) w2) (h4 : mw = own_at m0 m1 m2 w3) (h5 : d0 = own_p 0 mw ((own_at c0 c1 c2 mw) - (1 : Int32)) c0) (h6 : d1 = own_p 1 mw ((own_at c0 c1 c2 mw) - (1 : Int32)) c1) (h7 : d2 = own_p 2 mw ((own_at c0 c1 c2 mw) - (1 : Int32)) c2) (h8 : n0 = own_p 0 w3 e m0) (h9 : n1 = own_p 1 w3 e m1) (h10 : n2 = own_p 2 w3 e m2) :
    own_upd x y z e (c0, c1, c2, m0, m1, m2, r) = (own_inc e 0 d0, own_inc e 1 d1, own_inc e 2 d2, n0, n1, n2, 1) := by
  subst h1; subst h2; subst h3; subst h4; subst h5; subst h6; subst h7; subst h8; subst h9; subst h10; rfl
theorem own_upd0 {x y z : Bool} {c0 c1 c2 m0 m1 m2 r w1 w2 w3 mw d0 d1 d2 n0 n1 n2 : Int32} (h1 : w1 = own_w1 (own_at c0 c1 c2 m0)) (h2 : w2 = own_w2 x (own_at c0 c1 c2 m1) w1) (h3 : w3 = own_w3 y z (own_at c0 c1 c2 m2) w2) (h4 : mw = own_at m0 m1 m2 w3) (h5 : d0 = own_p 0 mw ((own_at c0 c1 c2 mw) - (1 : Int32)) c0) (h6 : d1 = own_p 1 mw ((own_at c0 c1 c2 mw) - (1 : Int32)) c1) (h7 : d2 = own_p 2 mw ((own_at c0 c1 c2 mw) - (1 : Int32)) c2) (h8 : n0 = own_p 0 w3 0 m0) (h9 : n1 = own_p 1 w3 0 m1) (h10 : n2 = own_p 2 w3 0 m2) :
    own_upd x y z 0 (c0, c1, c2, m0, m1, m2, r) = (d0 + (1 : Int32), d1, d2, n0, n1, n2, 1) := by
  rw [own_updE h1 h2 h3 h4 h5 h6 h7 h8 h9 h10]; simp [own_inc]
theorem own_upd1 {x y z : Bool} {c0 c1 c2 m0 m1 m2 r w1 w2 w3 mw d0 d1 d2 n0 n1 n2 : Int32} (h1 : w1 = own_w1 (own_at c0 c1 c2 m0)) (h2 : w2 = own_w2 x (own_at c0 c1 c2 m1) w1) (h3 : w3 = own_w3 y z (own_at c0 c1 c2 m2) w2) (h4 : mw = own_at m0 m1 m2 w3) (h5 : d0 = own_p 0 mw ((own_at c0 c1 c2 mw) - (1 : Int32)) c0) (h6 : d1 = own_p 1 mw ((own_at c0 c1 c2 mw) - (1 : Int32)) c1) (h7 : d2 = own_p 2 mw ((own_at c0 c1 c2 mw) - (1 : Int32)) c2) (h8 : n0 = own_p 0 w3 1 m0) (h9 : n1 = own_p 1 w3 1 m1) (h10 : n2 = own_p 2 w3 1 m2) :
    own_upd x y z 1 (c0, c1, c2, m0, m1, m2, r) = (d0, d1 + (1 : Int32), d2, n0, n1, n2, 1) := by
  rw [own_updE h1 h2 h3 h4 h5 h6 h7 h8 h9 h10]; simp [own_inc]
theorem own_upd2 {x y z : Bool} {c0 c1 c2 m0 m1 m2 r w1 w2 w3 mw d0 d1 d2 n0 n1 n2 : Int32} (h1 : w1 = own_w1 (own_at c0 c1 c2 m0)) (h2 : w2 = own_w2 x (own_at c0 c1 c2 m1) w1) (h3 : w3 = own_w3 y z (own_at c0 c1 c2 m2) w2) (h4 : mw = own_at m0 m1 m2 w3) (h5 : d0 = own_p 0 mw ((own_at c0 c1 c2 mw) - (1 : Int32)) c0) (h6 : d1 = own_p 1 mw ((own_at c0 c1 c2 mw) - (1 : Int32)) c1) (h7 : d2 = own_p 2 mw ((own_at c0 c1 c2 mw) - (1 : Int32)) c2) (h8 : n0 = own_p 0 w3 2 m0) (h9 : n1 = own_p 1 w3 2 m1) (h10 : n2 = own_p 2 w3 2 m2) :
    own_upd x y z 2 (c0, c1, c2, m0, m1, m2, r) = (d0, d1, d2 + (1 : Int32), n0, n1, n2, 1) := by
  rw [own_updE h1 h2 h3 h4 h5 h6 h7 h8 h9 h10]; simp [own_inc]
theorem own_worstE {x y z : Bool} {c0 c1 c2 m0 m1 m2 r w1 w2 w3 : Int32} (h1 : w1 = own_w1 (own_at c0 c1 c2 m0)) (h2 : w2 = own_w2 x (own_at c0 c1 c2 m1) w1) (h3 : w3 = own_w3 y z (own_at c0 c1 c2 m2) w2) : own_worst x y z (c0, c1, c2, m0, m1, m2, r) = w3 := by
  subst h1; subst h2; subst h3; rfl
theorem own_w2TT {x : Bool} {s w : Int32} (h : 1 < s) (h1 : w < 0) : own_w2 x s w = 1 := by unfold own_w2; rw [if_pos h, if_pos h1]
theorem own_w2TFT {x : Bool} {s w : Int32} (h : 1 < s) (h1 : ¬ w < 0) (h2 : x = true) : own_w2 x s w = 1 := by unfold own_w2; rw [if_pos h, if_neg h1, if_pos h2]
theorem own_w2TFF {x : Bool} {s w : Int32} (h : 1 < s) (h1 : ¬ w < 0) (h2 : ¬ x = true) : own_w2 x s w = w := by unfold own_w2; rw [if_pos h, if_neg h1, if_neg h2]
theorem own_w2F {x : Bool} {s w : Int32} (h : ¬ 1 < s) : own_w2 x s w = w := by unfold own_w2; rw [if_neg h]
theorem own_w3TT {y z : Bool} {s w : Int32} (h : 1 < s) (h1 : w < 0) : own_w3 y z s w = 2 := by unfold own_w3; rw [if_pos h, if_pos h1]
theorem own_w3TFT {y z : Bool} {s w : Int32} (h : 1 < s) (h1 : ¬ w < 0) (h2 : (if w = 0 then y else z) = true) : own_w3 y z s w = 2 := by unfold own_w3; rw [if_pos h, if_neg h1, if_pos h2]
theorem own_w3TFF {y z : Bool} {s w : Int32} (h : 1 < s) (h1 : ¬ w < 0) (h2 : ¬ (if w = 0 then y else z) = true) : own_w3 y z s w = w := by unfold own_w3; rw [if_pos h, if_neg h1, if_neg h2]
theorem own_w3F {y z : Bool} {s w : Int32} (h : ¬ 1 < s) : own_w3 y z s w = w := by unfold own_w3; rw [if_neg h]
theorem own_w1v {s w : Int32} (e : w = own_w1 s) : w = 0 ∨ w = -1 := by rw [e]; unfold own_w1; split; exact Or.inl rfl; exact Or.inr rfl
theorem own_w1z {s w : Int32} (e : w = own_w1 s) (h : ¬ w < 0) : w = 0 := by
  rcases own_w1v e with q | q
  · exact q
  · rw [q] at h; exact absurd (by decide) h
theorem own_w2z {x : Bool} {s s' w w' : Int32} (e : w = own_w1 s) (e' : w' = own_w2 x s' w) (h : ¬ w' < 0) : w' = 0 ∨ w' = 1 := by
  rcases own_w1v e with q | q <;> subst q <;> rw [e'] at h ⊢ <;> unfold own_w2 at h ⊢ <;> cases x <;> by_cases g : 1 < s' <;> simp [g] at h ⊢
theorem own_gd {f0 f1 f2 : UInt64} {w : Int32} {d : Value} (h : w = 0 ∨ w = 1) : ([.double f0, .double f1, .double f2] : List Value).getD w.toNatClampNeg d = .double (own_atD f0 f1 w) := by rcases h with rfl | rfl <;> rfl
theorem own_gd0 {f0 f1 f2 : UInt64} {w : Int32} {d : Value} (h : w = 0) : ([.double f0, .double f1, .double f2] : List Value).getD w.toNatClampNeg d = .double f0 := by subst h; rfl
theorem own_b01 {w : Int32} (h : w = 0 ∨ w = 1) : ¬ w < 0 ∧ w < (3 : Int32) := by rcases h with rfl | rfl <;> decide
theorem own_b00 {w : Int32} (h : w = 0) : ¬ w < 0 ∧ w < (3 : Int32) := by subst h; decide
theorem own_cyz {f0 f1 f2 : UInt64} {y z : Bool} {w : Int32} (h : w = 0 ∨ w = 1) (cy : (cmpValue (FP.dcmp f2 f0) .g) < (0 : Int32) ↔ y = true) (cz : (cmpValue (FP.dcmp f2 f1) .g) < (0 : Int32) ↔ z = true) : (cmpValue (FP.dcmp f2 (own_atD f0 f1 w)) .g) < (0 : Int32) ↔ (if w = 0 then y else z) = true := by
  rcases h with rfl | rfl
  · exact cy
  · exact cz
theorem own_pr {P : Int32 → Prop} {j i x s : Int32} (h1 : P x) (h2 : P s) : P (own_p j i x s) := by unfold own_p; split <;> assumption
theorem own_atr {P : Int32 → Prop} {a b c i : Int32} (h1 : P a) (h2 : P b) (h3 : P c) : P (own_at a b c i) := by unfold own_at; split; exact h1; split <;> assumption
theorem own_F1p {x y z : Bool} {ma0 ma1 ma2 c0 c1 c2 m0 m1 m2 r : Int32} (H : own_F0 x y z ma0 ma1 ma2 = (c0, c1, c2, m0, m1, m2, r)) (he : 0 < c0) : own_F1 x y z ma0 ma1 ma2 = (c0, c1, c2, m0, m1, m2, r) := by
  unfold own_F1
  rw [H]
  exact own_itp (t := (c0, c1, c2, m0, m1, m2, r)) (e := 0) (show 0 < own_at c0 c1 c2 0 from he)
theorem own_F1u {x y z : Bool} {ma0 ma1 ma2 c0 c1 c2 m0 m1 m2 r w1 w2 w3 mw d0 d1 d2 n0 n1 n2 : Int32} (H : own_F0 x y z ma0 ma1 ma2 = (c0, c1, c2, m0, m1, m2, r)) (he : ¬ 0 < c0) (h1 : w1 = own_w1 (own_at c0 c1 c2 m0)) (h2 : w2 = own_w2 x (own_at c0 c1 c2 m1) w1) (h3 : w3 = own_w3 y z (own_at c0 c1 c2 m2) w2) (h4 : mw = own_at m0 m1 m2 w3) (h5 : d0 = own_p 0 mw ((own_at c0 c1 c2 mw) - (1 : Int32)) c0) (h6 : d1 = own_p 1 mw ((own_at c0 c1 c2 mw) - (1 : Int32)) c1) (h7 : d2 = own_p 2 mw ((own_at c0 c1 c2 mw) - (1 : Int32)) c2) (h8 : n0 = own_p 0 w3 0 m0) (h9 : n1 = own_p 1 w3 0 m1) (h10 : n2 = own_p 2 w3 0 m2) : own_F1 x y z ma0 ma1 ma2 = (d0 + (1 : Int32), d1, d2, n0, n1, n2, 1) := by
  unfold own_F1
  rw [H, own_itn (t := (c0, c1, c2, m0, m1, m2, r)) (e := 0) (show ¬ 0 < own_at c0 c1 c2 0 from he)]
  exact own_upd0 h1 h2 h3 h4 h5 h6 h7 h8 h9 h10
theorem own_F2p {x y z : Bool} {ma0 ma1 ma2 c0 c1 c2 m0 m1 m2 r : Int32} (H : own_F1 x y z ma0 ma1 ma2 = (c0, c1, c2, m0, m1, m2, r)) (he : 0 < c1) : own_F2 x y z ma0 ma1 ma2 = (c0, c1, c2, m0, m1, m2, r) := by
  unfold own_F2
  rw [H]
  exact own_itp (t := (c0, c1, c2, m0, m1, m2, r)) (e := 1) (show 0 < own_at c0 c1 c2 1 from he)
theorem own_F2u {x y z : Bool} {ma0 ma1 ma2 c0 c1 c2 m0 m1 m2 r w1 w2 w3 mw d0 d1 d2 n0 n1 n2 : Int32} (H : own_F1 x y z ma0 ma1 ma2 = (c0, c1, c2, m0, m1, m2, r)) (he : ¬ 0 < c1) (h1 : w1 = own_w1 (own_at c0 c1 c2 m0)) (h2 : w2 = own_w2 x (own_at c0 c1 c2 m1) w1) (h3 : w3 = own_w3 y z (own_at c0 c1 c2 m2) w2) (h4 : mw = own_at m0 m1 m2 w3) (h5 : d0 = own_p 0 mw ((own_at c0 c1 c2 mw) - (1 : Int32)) c0) (h6 : d1 = own_p 1 mw ((own_at c0 c1 c2 mw) - (1 : Int32)) c1) (h7 : d2 = own_p 2 mw ((own_at c0 c1 c2 mw) - (1 : Int32)) c2) (h8 : n0 = own_p 0 w3 1 m0) (h9 : n1 = own_p 1 w3 1 m1) (h10 : n2 = own_p 2 w3 1 m2) : own_F2 x y z ma0 ma1 ma2 = (d0, d1 + (1 : Int32), d2, n0, n1, n2, 1) := by
  unfold own_F2
  rw [H, own_itn (t := (c0, c1, c2, m0, m1, m2, r)) (e := 1) (show ¬ 0 < own_at c0 c1 c2 1 from he)]
  exact own_upd1 h1 h2 h3 h4 h5 h6 h7 h8 h9 h10
theorem own_F3p {x y z : Bool} {ma0 ma1 ma2 c0 c1 c2 m0 m1 m2 r : Int32} (H : own_F2 x y z ma0 ma1 ma2 = (c0, c1, c2, m0, m1, m2, r)) (he : 0 < c2) : own_F3 x y z ma0 ma1 ma2 = (c0, c1, c2, m0, m1, m2, r) := by
  unfold own_F3
  rw [H]
  exact own_itp (t := (c0, c1, c2, m0, m1, m2, r)) (e := 2) (show 0 < own_at c0 c1 c2 2 from he)
theorem own_F3u {x y z : Bool} {ma0 ma1 ma2 c0 c1 c2 m0 m1 m2 r w1 w2 w3 mw d0 d1 d2 n0 n1 n2 : Int32} (H : own_F2 x y z ma0 ma1 ma2 = (c0, c1, c2, m0, m1, m2, r)) (he : ¬ 0 < c2) (h1 : w1 = own_w1 (own_at c0 c1 c2 m0)) (h2 : w2 = own_w2 x (own_at c0 c1 c2 m1) w1) (h3 : w3 = own_w3 y z (own_at c0 c1 c2 m2) w2) (h4 : mw = own_at m0 m1 m2 w3) (h5 : d0 = own_p 0 mw ((own_at c0 c1 c2 mw) - (1 : Int32)) c0) (h6 : d1 = own_p 1 mw ((own_at c0 c1 c2 mw) - (1 : Int32)) c1) (h7 : d2 = own_p 2 mw ((own_at c0 c1 c2 mw) - (1 : Int32)) c2) (h8 : n0 = own_p 0 w3 2 m0) (h9 : n1 = own_p 1 w3 2 m1) (h10 : n2 = own_p 2 w3 2 m2) : own_F3 x y z ma0 ma1 ma2 = (d0, d1, d2 + (1 : Int32), n0, n1, n2, 1) := by
  unfold own_F3
  rw [H, own_itn (t := (c0, c1, c2, m0, m1, m2, r)) (e := 2) (show ¬ 0 < own_at c0 c1 c2 2 from he)]
  exact own_upd2 h1 h2 h3 h4 h5 h6 h7 h8 h9 h10
theorem own_g1 {s0 i : Int32} {t1 t2 : Int32} {d : Value} (h : (i = 0)) : ([.int s0] : List Value).getD i.toNatClampNeg d = .int (own_at s0 t1 t2 i) := by subst h <;> rfl
theorem own_b1 {i : Int32} (h : (i = 0)) : ¬ i < 0 ∧ i < (1 : Int32) := by subst h <;> decide
theorem own_l1 {s0 i : Int32} (h : (i = 0)) : i.toNatClampNeg < ([.int s0] : List Value).length := by subst h <;> exact Nat.le_of_ble_eq_true rfl
theorem own_s1 {s0 i x : Int32} (h : (i = 0)) : ([.int s0] : List Value).set i.toNatClampNeg (.int x) = [.int (own_p 0 i x s0)] := by subst h <;> rfl
theorem own_rem1 (x : Int32) : (((x &&& (2147483647 : Int32)) % (1 : Int32)) = 0) := by
  have b := own_maskI (x := x) (m := 2147483647) (k := 31) (by decide) (by decide)
  have r := own_irem (x := x &&& (2147483647 : Int32)) (m := 1) (M := 1) rfl (by decide) (by decide)
  obtain ⟨n, hn, e⟩ := own_cases32 (n := 1) (r.2.2 b.1) (by omega)
  rw [e]
  match n, hn with
  | 0, _ => decide
theorem own_L10 (x y z : Bool) {ma0 ma1 ma2 : Int32} (r0 : (ma0 = 0)) (r1 : (ma1 = 0)) (r2 : (ma2 = 0)) : ¬ 0 < own_at (own_F0 x y z ma0 ma1 ma2).c0 (own_F0 x y z ma0 ma1 ma2).c1 (own_F0 x y z ma0 ma1 ma2).c2 0 → own_worst x y z (own_F0 x y z ma0 ma1 ma2) = 0 ∨ own_worst x y z (own_F0 x y z ma0 ma1 ma2) = 1 ∨ own_worst x y z (own_F0 x y z ma0 ma1 ma2) = 2 := by
  subst r0; subst r1; subst r2; revert x y z; decide +kernel
theorem own_N1 (x y z : Bool) {ma0 ma1 ma2 : Int32} (r0 : (ma0 = 0)) (r1 : (ma1 = 0)) (r2 : (ma2 = 0)) : 0 < own_at (own_F0 x y z ma0 ma1 ma2).c0 (own_F0 x y z ma0 ma1 ma2).c1 (own_F0 x y z ma0 ma1 ma2).c2 0 := by
  subst r0; subst r1; subst r2; revert x y z; decide +kernel
def own_h111 (x y z : Bool) : Int32 := if x = true then (if z = true then 2 else 1) else (if y = true then 2 else 0)
def own_h110 (x : Bool) : Int32 := if x = true then 1 else 0
def own_h101 (y : Bool) : Int32 := if y = true then 2 else 0
def own_h011 (z : Bool) : Int32 := if z = true then 2 else 1
theorem own_h111r (x y z : Bool) : own_h111 x y z = 0 ∨ own_h111 x y z = 1 ∨ own_h111 x y z = 2 := by revert x y z; decide
theorem own_h110r (x : Bool) : own_h110 x = 0 ∨ own_h110 x = 1 ∨ own_h110 x = 2 := by revert x; decide
theorem own_h101r (x : Bool) : own_h101 x = 0 ∨ own_h101 x = 1 ∨ own_h101 x = 2 := by revert x; decide
theorem own_h011r (x : Bool) : own_h011 x = 0 ∨ own_h011 x = 1 ∨ own_h011 x = 2 := by revert x; decide
def own_fst (a : Int32) : Int32 := if a = 0 then 1 else 0
def own_snd (a : Int32) : Int32 := if a = 2 then 1 else 2
theorem own_E1 (x y z : Bool) {ma0 ma1 ma2 : Int32} (r0 : (ma0 = 0)) (r1 : (ma1 = 0)) (r2 : (ma2 = 0)) : (own_F1 x y z ma0 ma1 ma2).m0 = ma0 ∧ (own_F1 x y z ma0 ma1 ma2).m1 = ma1 ∧ (own_F1 x y z ma0 ma1 ma2).m2 = ma2 ∧ (own_F1 x y z ma0 ma1 ma2).r = 0 := by
  subst r0; subst r1; subst r2; revert x y z; decide +kernel
theorem own_g2 {s0 s1 i : Int32} {t2 : Int32} {d : Value} (h : (i = 0 ∨ i = 1)) : ([.int s0, .int s1] : List Value).getD i.toNatClampNeg d = .int (own_at s0 s1 t2 i) := by rcases h with rfl | rfl <;> rfl
theorem own_b2 {i : Int32} (h : (i = 0 ∨ i = 1)) : ¬ i < 0 ∧ i < (2 : Int32) := by rcases h with rfl | rfl <;> decide
theorem own_l2 {s0 s1 i : Int32} (h : (i = 0 ∨ i = 1)) : i.toNatClampNeg < ([.int s0, .int s1] : List Value).length := by rcases h with rfl | rfl <;> exact Nat.le_of_ble_eq_true rfl
theorem own_s2 {s0 s1 i x : Int32} (h : (i = 0 ∨ i = 1)) : ([.int s0, .int s1] : List Value).set i.toNatClampNeg (.int x) = [.int (own_p 0 i x s0), .int (own_p 1 i x s1)] := by rcases h with rfl | rfl <;> rfl
theorem own_rem2 (x : Int32) : (((x &&& (2147483647 : Int32)) % (2 : Int32)) = 0 ∨ ((x &&& (2147483647 : Int32)) % (2 : Int32)) = 1) := by
  have b := own_maskI (x := x) (m := 2147483647) (k := 31) (by decide) (by decide)
  have r := own_irem (x := x &&& (2147483647 : Int32)) (m := 2) (M := 2) rfl (by decide) (by decide)
  obtain ⟨n, hn, e⟩ := own_cases32 (n := 2) (r.2.2 b.1) (by omega)
  rw [e]
  match n, hn with
  | 0, _ => decide
  | 1, _ => decide
theorem own_L20 (x y z : Bool) {ma0 ma1 ma2 : Int32} (r0 : (ma0 = 0 ∨ ma0 = 1)) (r1 : (ma1 = 0 ∨ ma1 = 1)) (r2 : (ma2 = 0 ∨ ma2 = 1)) : ¬ 0 < own_at (own_F0 x y z ma0 ma1 ma2).c0 (own_F0 x y z ma0 ma1 ma2).c1 (own_F0 x y z ma0 ma1 ma2).c2 0 → own_worst x y z (own_F0 x y z ma0 ma1 ma2) = 0 ∨ own_worst x y z (own_F0 x y z ma0 ma1 ma2) = 1 ∨ own_worst x y z (own_F0 x y z ma0 ma1 ma2) = 2 := by
  rcases r0 with rfl | rfl <;> rcases r1 with rfl | rfl <;> rcases r2 with rfl | rfl <;> revert x y z <;> decide +kernel
theorem own_L21 (x y z : Bool) {ma0 ma1 ma2 : Int32} (r0 : (ma0 = 0 ∨ ma0 = 1)) (r1 : (ma1 = 0 ∨ ma1 = 1)) (r2 : (ma2 = 0 ∨ ma2 = 1)) : ¬ 0 < own_at (own_F1 x y z ma0 ma1 ma2).c0 (own_F1 x y z ma0 ma1 ma2).c1 (own_F1 x y z ma0 ma1 ma2).c2 1 → own_worst x y z (own_F1 x y z ma0 ma1 ma2) = 0 ∨ own_worst x y z (own_F1 x y z ma0 ma1 ma2) = 1 ∨ own_worst x y z (own_F1 x y z ma0 ma1 ma2) = 2 := by
  rcases r0 with rfl | rfl <;> rcases r1 with rfl | rfl <;> rcases r2 with rfl | rfl <;> revert x y z <;> decide +kernel
theorem own_N2 (x y z : Bool) {ma0 ma1 ma2 : Int32} (r0 : (ma0 = 0 ∨ ma0 = 1)) (r1 : (ma1 = 0 ∨ ma1 = 1)) (r2 : (ma2 = 0 ∨ ma2 = 1)) : ¬ 0 < own_at (own_F0 x y z ma0 ma1 ma2).c0 (own_F0 x y z ma0 ma1 ma2).c1 (own_F0 x y z ma0 ma1 ma2).c2 0 → 0 < own_at (own_F1 x y z ma0 ma1 ma2).c0 (own_F1 x y z ma0 ma1 ma2).c1 (own_F1 x y z ma0 ma1 ma2).c2 1 := by
  rcases r0 with rfl | rfl <;> rcases r1 with rfl | rfl <;> rcases r2 with rfl | rfl <;> revert x y z <;> decide +kernel
theorem own_E2n (x y z : Bool) {ma0 ma1 ma2 : Int32} (r0 : (ma0 = 0 ∨ ma0 = 1)) (r1 : (ma1 = 0 ∨ ma1 = 1)) (r2 : (ma2 = 0 ∨ ma2 = 1)) : ¬ (ma0 = ma1 ∧ ma1 = ma2) → (own_F2 x y z ma0 ma1 ma2).m0 = ma0 ∧ (own_F2 x y z ma0 ma1 ma2).m1 = ma1 ∧ (own_F2 x y z ma0 ma1 ma2).m2 = ma2 ∧ (own_F2 x y z ma0 ma1 ma2).r = 0 := by
  rcases r0 with rfl | rfl <;> rcases r1 with rfl | rfl <;> rcases r2 with rfl | rfl <;> revert x y z <;> decide +kernel
theorem own_E2e (x y z : Bool) {ma0 ma1 ma2 : Int32} (r0 : (ma0 = 0 ∨ ma0 = 1)) (r1 : (ma1 = 0 ∨ ma1 = 1)) (r2 : (ma2 = 0 ∨ ma2 = 1)) : ma0 = ma1 → ma1 = ma2 → (own_F2 x y z ma0 ma1 ma2).m0 = (own_p 0 (own_h111 x y z) ((1 : Int32) - ma0) ma0) ∧ (own_F2 x y z ma0 ma1 ma2).m1 = (own_p 1 (own_h111 x y z) ((1 : Int32) - ma0) ma1) ∧ (own_F2 x y z ma0 ma1 ma2).m2 = (own_p 2 (own_h111 x y z) ((1 : Int32) - ma0) ma2) ∧ (own_F2 x y z ma0 ma1 ma2).r = 1 := by
  rcases r0 with rfl | rfl <;> rcases r1 with rfl | rfl <;> rcases r2 with rfl | rfl <;> revert x y z <;> decide +kernel
theorem own_g3 {s0 s1 s2 i : Int32} {d : Value} (h : (i = 0 ∨ i = 1 ∨ i = 2)) : ([.int s0, .int s1, .int s2] : List Value).getD i.toNatClampNeg d = .int (own_at s0 s1 s2 i) := by rcases h with rfl | rfl | rfl <;> rfl
theorem own_b3 {i : Int32} (h : (i = 0 ∨ i = 1 ∨ i = 2)) : ¬ i < 0 ∧ i < (3 : Int32) := by rcases h with rfl | rfl | rfl <;> decide
theorem own_l3 {s0 s1 s2 i : Int32} (h : (i = 0 ∨ i = 1 ∨ i = 2)) : i.toNatClampNeg < ([.int s0, .int s1, .int s2] : List Value).length := by rcases h with rfl | rfl | rfl <;> exact Nat.le_of_ble_eq_true rfl
theorem own_s3 {s0 s1 s2 i x : Int32} (h : (i = 0 ∨ i = 1 ∨ i = 2)) : ([.int s0, .int s1, .int s2] : List Value).set i.toNatClampNeg (.int x) = [.int (own_p 0 i x s0), .int (own_p 1 i x s1), .int (own_p 2 i x s2)] := by rcases h with rfl | rfl | rfl <;> rfl
theorem own_rem3 (x : Int32) : (((x &&& (2147483647 : Int32)) % (3 : Int32)) = 0 ∨ ((x &&& (2147483647 : Int32)) % (3 : Int32)) = 1 ∨ ((x &&& (2147483647 : Int32)) % (3 : Int32)) = 2) := by
  have b := own_maskI (x := x) (m := 2147483647) (k := 31) (by decide) (by decide)
  have r := own_irem (x := x &&& (2147483647 : Int32)) (m := 3) (M := 3) rfl (by decide) (by decide)
  obtain ⟨n, hn, e⟩ := own_cases32 (n := 3) (r.2.2 b.1) (by omega)
  rw [e]
  match n, hn with
  | 0, _ => decide
  | 1, _ => decide
  | 2, _ => decide
theorem own_L30 (x y z : Bool) {ma0 ma1 ma2 : Int32} (r0 : (ma0 = 0 ∨ ma0 = 1 ∨ ma0 = 2)) (r1 : (ma1 = 0 ∨ ma1 = 1 ∨ ma1 = 2)) (r2 : (ma2 = 0 ∨ ma2 = 1 ∨ ma2 = 2)) : ¬ 0 < own_at (own_F0 x y z ma0 ma1 ma2).c0 (own_F0 x y z ma0 ma1 ma2).c1 (own_F0 x y z ma0 ma1 ma2).c2 0 → own_worst x y z (own_F0 x y z ma0 ma1 ma2) = 0 ∨ own_worst x y z (own_F0 x y z ma0 ma1 ma2) = 1 ∨ own_worst x y z (own_F0 x y z ma0 ma1 ma2) = 2 := by
  rcases r0 with rfl | rfl | rfl <;> rcases r1 with rfl | rfl | rfl <;> rcases r2 with rfl | rfl | rfl <;> revert x y z <;> decide +kernel
theorem own_L31 (x y z : Bool) {ma0 ma1 ma2 : Int32} (r0 : (ma0 = 0 ∨ ma0 = 1 ∨ ma0 = 2)) (r1 : (ma1 = 0 ∨ ma1 = 1 ∨ ma1 = 2)) (r2 : (ma2 = 0 ∨ ma2 = 1 ∨ ma2 = 2)) : ¬ 0 < own_at (own_F1 x y z ma0 ma1 ma2).c0 (own_F1 x y z ma0 ma1 ma2).c1 (own_F1 x y z ma0 ma1 ma2).c2 1 → own_worst x y z (own_F1 x y z ma0 ma1 ma2) = 0 ∨ own_worst x y z (own_F1 x y z ma0 ma1 ma2) = 1 ∨ own_worst x y z (own_F1 x y z ma0 ma1 ma2) = 2 := by
  rcases r0 with rfl | rfl | rfl <;> rcases r1 with rfl | rfl | rfl <;> rcases r2 with rfl | rfl | rfl <;> revert x y z <;> decide +kernel
theorem own_L32 (x y z : Bool) {ma0 ma1 ma2 : Int32} (r0 : (ma0 = 0 ∨ ma0 = 1 ∨ ma0 = 2)) (r1 : (ma1 = 0 ∨ ma1 = 1 ∨ ma1 = 2)) (r2 : (ma2 = 0 ∨ ma2 = 1 ∨ ma2 = 2)) : ¬ 0 < own_at (own_F2 x y z ma0 ma1 ma2).c0 (own_F2 x y z ma0 ma1 ma2).c1 (own_F2 x y z ma0 ma1 ma2).c2 2 → own_worst x y z (own_F2 x y z ma0 ma1 ma2) = 0 ∨ own_worst x y z (own_F2 x y z ma0 ma1 ma2) = 1 ∨ own_worst x y z (own_F2 x y z ma0 ma1 ma2) = 2 := by
  rcases r0 with rfl | rfl | rfl <;> rcases r1 with rfl | rfl | rfl <;> rcases r2 with rfl | rfl | rfl <;> revert x y z <;> decide +kernel
theorem own_N3 (x y z : Bool) {ma0 ma1 ma2 : Int32} (r0 : (ma0 = 0 ∨ ma0 = 1 ∨ ma0 = 2)) (r1 : (ma1 = 0 ∨ ma1 = 1 ∨ ma1 = 2)) (r2 : (ma2 = 0 ∨ ma2 = 1 ∨ ma2 = 2)) : ¬ 0 < own_at (own_F0 x y z ma0 ma1 ma2).c0 (own_F0 x y z ma0 ma1 ma2).c1 (own_F0 x y z ma0 ma1 ma2).c2 0 → ¬ 0 < own_at (own_F1 x y z ma0 ma1 ma2).c0 (own_F1 x y z ma0 ma1 ma2).c1 (own_F1 x y z ma0 ma1 ma2).c2 1 → 0 < own_at (own_F2 x y z ma0 ma1 ma2).c0 (own_F2 x y z ma0 ma1 ma2).c1 (own_F2 x y z ma0 ma1 ma2).c2 2 := by
  rcases r0 with rfl | rfl | rfl <;> rcases r1 with rfl | rfl | rfl <;> rcases r2 with rfl | rfl | rfl <;> revert x y z <;> decide +kernel
theorem own_E3n (x y z : Bool) {ma0 ma1 ma2 : Int32} (r0 : (ma0 = 0 ∨ ma0 = 1 ∨ ma0 = 2)) (r1 : (ma1 = 0 ∨ ma1 = 1 ∨ ma1 = 2)) (r2 : (ma2 = 0 ∨ ma2 = 1 ∨ ma2 = 2)) : ¬ ma0 = ma1 → ¬ ma1 = ma2 → ¬ ma0 = ma2 → (own_F3 x y z ma0 ma1 ma2).m0 = ma0 ∧ (own_F3 x y z ma0 ma1 ma2).m1 = ma1 ∧ (own_F3 x y z ma0 ma1 ma2).m2 = ma2 ∧ (own_F3 x y z ma0 ma1 ma2).r = 0 := by
  rcases r0 with rfl | rfl | rfl <;> rcases r1 with rfl | rfl | rfl <;> rcases r2 with rfl | rfl | rfl <;> revert x y z <;> decide +kernel
theorem own_E3A (x y z : Bool) {ma0 ma1 ma2 : Int32} (r0 : (ma0 = 0 ∨ ma0 = 1 ∨ ma0 = 2)) (r1 : (ma1 = 0 ∨ ma1 = 1 ∨ ma1 = 2)) (r2 : (ma2 = 0 ∨ ma2 = 1 ∨ ma2 = 2)) : ma0 = ma1 → ¬ ma1 = ma2 → (own_F3 x y z ma0 ma1 ma2).m0 = (own_p 0 (own_h110 x) (((3 : Int32) - ma0) - ma2) ma0) ∧ (own_F3 x y z ma0 ma1 ma2).m1 = (own_p 1 (own_h110 x) (((3 : Int32) - ma0) - ma2) ma1) ∧ (own_F3 x y z ma0 ma1 ma2).m2 = (own_p 2 (own_h110 x) (((3 : Int32) - ma0) - ma2) ma2) ∧ (own_F3 x y z ma0 ma1 ma2).r = 1 := by
  rcases r0 with rfl | rfl | rfl <;> rcases r1 with rfl | rfl | rfl <;> rcases r2 with rfl | rfl | rfl <;> revert x y z <;> decide +kernel
theorem own_E3B (x y z : Bool) {ma0 ma1 ma2 : Int32} (r0 : (ma0 = 0 ∨ ma0 = 1 ∨ ma0 = 2)) (r1 : (ma1 = 0 ∨ ma1 = 1 ∨ ma1 = 2)) (r2 : (ma2 = 0 ∨ ma2 = 1 ∨ ma2 = 2)) : ¬ ma0 = ma1 → ma1 = ma2 → (own_F3 x y z ma0 ma1 ma2).m0 = (own_p 0 (own_h011 z) (((3 : Int32) - ma1) - ma0) ma0) ∧ (own_F3 x y z ma0 ma1 ma2).m1 = (own_p 1 (own_h011 z) (((3 : Int32) - ma1) - ma0) ma1) ∧ (own_F3 x y z ma0 ma1 ma2).m2 = (own_p 2 (own_h011 z) (((3 : Int32) - ma1) - ma0) ma2) ∧ (own_F3 x y z ma0 ma1 ma2).r = 1 := by
  rcases r0 with rfl | rfl | rfl <;> rcases r1 with rfl | rfl | rfl <;> rcases r2 with rfl | rfl | rfl <;> revert x y z <;> decide +kernel
theorem own_E3C (x y z : Bool) {ma0 ma1 ma2 : Int32} (r0 : (ma0 = 0 ∨ ma0 = 1 ∨ ma0 = 2)) (r1 : (ma1 = 0 ∨ ma1 = 1 ∨ ma1 = 2)) (r2 : (ma2 = 0 ∨ ma2 = 1 ∨ ma2 = 2)) : ¬ ma0 = ma1 → ¬ ma1 = ma2 → ma0 = ma2 → (own_F3 x y z ma0 ma1 ma2).m0 = (own_p 0 (own_h101 y) (((3 : Int32) - ma0) - ma1) ma0) ∧ (own_F3 x y z ma0 ma1 ma2).m1 = (own_p 1 (own_h101 y) (((3 : Int32) - ma0) - ma1) ma1) ∧ (own_F3 x y z ma0 ma1 ma2).m2 = (own_p 2 (own_h101 y) (((3 : Int32) - ma0) - ma1) ma2) ∧ (own_F3 x y z ma0 ma1 ma2).r = 1 := by
  rcases r0 with rfl | rfl | rfl <;> rcases r1 with rfl | rfl | rfl <;> rcases r2 with rfl | rfl | rfl <;> revert x y z <;> decide +kernel
theorem own_E3e0 (x y z : Bool) {ma0 ma1 ma2 : Int32} (r0 : (ma0 = 0 ∨ ma0 = 1 ∨ ma0 = 2)) (r1 : (ma1 = 0 ∨ ma1 = 1 ∨ ma1 = 2)) (r2 : (ma2 = 0 ∨ ma2 = 1 ∨ ma2 = 2)) : ma0 = ma1 → ma1 = ma2 → own_h111 x y z = 0 → (own_F3 x y z ma0 ma1 ma2).m0 = (own_p 0 (own_h011 z) (own_snd ma0) (own_fst ma0)) ∧ (own_F3 x y z ma0 ma1 ma2).m1 = (own_p 1 (own_h011 z) (own_snd ma0) ma1) ∧ (own_F3 x y z ma0 ma1 ma2).m2 = (own_p 2 (own_h011 z) (own_snd ma0) ma2) ∧ (own_F3 x y z ma0 ma1 ma2).r = 1 := by
  rcases r0 with rfl | rfl | rfl <;> rcases r1 with rfl | rfl | rfl <;> rcases r2 with rfl | rfl | rfl <;> revert x y z <;> decide +kernel
theorem own_E3e1 (x y z : Bool) {ma0 ma1 ma2 : Int32} (r0 : (ma0 = 0 ∨ ma0 = 1 ∨ ma0 = 2)) (r1 : (ma1 = 0 ∨ ma1 = 1 ∨ ma1 = 2)) (r2 : (ma2 = 0 ∨ ma2 = 1 ∨ ma2 = 2)) : ma0 = ma1 → ma1 = ma2 → own_h111 x y z = 1 → (own_F3 x y z ma0 ma1 ma2).m0 = (own_p 0 (own_h101 y) (own_snd ma0) ma0) ∧ (own_F3 x y z ma0 ma1 ma2).m1 = (own_p 1 (own_h101 y) (own_snd ma0) (own_fst ma0)) ∧ (own_F3 x y z ma0 ma1 ma2).m2 = (own_p 2 (own_h101 y) (own_snd ma0) ma2) ∧ (own_F3 x y z ma0 ma1 ma2).r = 1 := by
  rcases r0 with rfl | rfl | rfl <;> rcases r1 with rfl | rfl | rfl <;> rcases r2 with rfl | rfl | rfl <;> revert x y z <;> decide +kernel
theorem own_E3e2 (x y z : Bool) {ma0 ma1 ma2 : Int32} (r0 : (ma0 = 0 ∨ ma0 = 1 ∨ ma0 = 2)) (r1 : (ma1 = 0 ∨ ma1 = 1 ∨ ma1 = 2)) (r2 : (ma2 = 0 ∨ ma2 = 1 ∨ ma2 = 2)) : ma0 = ma1 → ma1 = ma2 → own_h111 x y z = 2 → (own_F3 x y z ma0 ma1 ma2).m0 = (own_p 0 (own_h110 x) (own_snd ma0) ma0) ∧ (own_F3 x y z ma0 ma1 ma2).m1 = (own_p 1 (own_h110 x) (own_snd ma0) ma1) ∧ (own_F3 x y z ma0 ma1 ma2).m2 = (own_p 2 (own_h110 x) (own_snd ma0) (own_fst ma0)) ∧ (own_F3 x y z ma0 ma1 ma2).r = 1 := by
  rcases r0 with rfl | rfl | rfl <;> rcases r1 with rfl | rfl | rfl <;> rcases r2 with rfl | rfl | rfl <;> revert x y z <;> decide +kernel
theorem own_bf {P : Prop} {b : Bool} (c : P ↔ b = true) (h : ¬ P) : b = false := by cases b; rfl; exact absurd (c.mpr rfl) h
theorem d2_0 : decode method_2_code 0 = .ok (.iload_n 0, 1) := by decide +kernel
theorem d2_1 : decode method_2_code 1 = .ok (.ifCond .eq 29, 3) := by decide +kernel
theorem d2_4 : decode method_2_code 4 = .ok (.iload_n 1, 1) := by decide +kernel
theorem d2_5 : decode method_2_code 5 = .ok (.ifCond .eq 10, 3) := by decide +kernel
theorem d2_8 : decode method_2_code 8 = .ok (.dload_n 3, 1) := by decide +kernel
theorem d2_9 : decode method_2_code 9 = .ok (.dload 5, 2) := by decide +kernel
theorem d2_11 : decode method_2_code 11 = .ok (.dcmp .g, 1) := by decide +kernel
theorem d2_12 : decode method_2_code 12 = .ok (.ifCond .gt 18, 3) := by decide +kernel
theorem d2_15 : decode method_2_code 15 = .ok (.iload_n 2, 1) := by decide +kernel
theorem d2_16 : decode method_2_code 16 = .ok (.ifCond .eq 10, 3) := by decide +kernel
theorem d2_19 : decode method_2_code 19 = .ok (.dload_n 3, 1) := by decide +kernel
theorem d2_20 : decode method_2_code 20 = .ok (.dload 7, 2) := by decide +kernel
theorem d2_22 : decode method_2_code 22 = .ok (.dcmp .g, 1) := by decide +kernel
theorem d2_23 : decode method_2_code 23 = .ok (.ifCond .gt 7, 3) := by decide +kernel
theorem d2_26 : decode method_2_code 26 = .ok (.iconst 1, 1) := by decide +kernel
theorem d2_27 : decode method_2_code 27 = .ok (.goto 4, 3) := by decide +kernel
theorem d2_30 : decode method_2_code 30 = .ok (.iconst 0, 1) := by decide +kernel
theorem d2_31 : decode method_2_code 31 = .ok (.istore 9, 2) := by decide +kernel
theorem d2_33 : decode method_2_code 33 = .ok (.iload_n 1, 1) := by decide +kernel
theorem d2_34 : decode method_2_code 34 = .ok (.ifCond .eq 30, 3) := by decide +kernel
theorem d2_37 : decode method_2_code 37 = .ok (.iload_n 0, 1) := by decide +kernel
theorem d2_38 : decode method_2_code 38 = .ok (.ifCond .eq 10, 3) := by decide +kernel
theorem d2_41 : decode method_2_code 41 = .ok (.dload 5, 2) := by decide +kernel
theorem d2_43 : decode method_2_code 43 = .ok (.dload_n 3, 1) := by decide +kernel
theorem d2_44 : decode method_2_code 44 = .ok (.dcmp .g, 1) := by decide +kernel
theorem d2_45 : decode method_2_code 45 = .ok (.ifCond .ge 19, 3) := by decide +kernel
theorem d2_48 : decode method_2_code 48 = .ok (.iload_n 2, 1) := by decide +kernel
theorem d2_49 : decode method_2_code 49 = .ok (.ifCond .eq 11, 3) := by decide +kernel
theorem d2_52 : decode method_2_code 52 = .ok (.dload 5, 2) := by decide +kernel
theorem d2_54 : decode method_2_code 54 = .ok (.dload 7, 2) := by decide +kernel
theorem d2_56 : decode method_2_code 56 = .ok (.dcmp .g, 1) := by decide +kernel
theorem d2_57 : decode method_2_code 57 = .ok (.ifCond .gt 7, 3) := by decide +kernel
theorem d2_60 : decode method_2_code 60 = .ok (.iconst 1, 1) := by decide +kernel
theorem d2_61 : decode method_2_code 61 = .ok (.goto 4, 3) := by decide +kernel
theorem d2_64 : decode method_2_code 64 = .ok (.iconst 0, 1) := by decide +kernel
theorem d2_65 : decode method_2_code 65 = .ok (.istore 10, 2) := by decide +kernel
theorem d2_67 : decode method_2_code 67 = .ok (.iload 9, 2) := by decide +kernel
theorem d2_69 : decode method_2_code 69 = .ok (.ifCond .eq 7, 3) := by decide +kernel
theorem d2_72 : decode method_2_code 72 = .ok (.iconst 0, 1) := by decide +kernel
theorem d2_73 : decode method_2_code 73 = .ok (.goto 13, 3) := by decide +kernel
theorem d2_76 : decode method_2_code 76 = .ok (.iload 10, 2) := by decide +kernel
theorem d2_78 : decode method_2_code 78 = .ok (.ifCond .eq 7, 3) := by decide +kernel
theorem d2_81 : decode method_2_code 81 = .ok (.iconst 1, 1) := by decide +kernel
theorem d2_82 : decode method_2_code 82 = .ok (.goto 4, 3) := by decide +kernel
theorem d2_85 : decode method_2_code 85 = .ok (.iconst 2, 1) := by decide +kernel
theorem d2_86 : decode method_2_code 86 = .ok (.ireturn, 1) := by decide +kernel
theorem pn0 : plainName "com/example/metasearch/metasearch/EmptyClustersFillPinLaw" = true := by first | (simp [plainName, overriddenIn]; done) | decide +kernel
theorem efw111 (m : MethodId) (d3 : UInt64) (d4 : UInt64) (d5 : UInt64) : entryFrame m #[(.int 1), (.int 1), (.int 1), (.double d3), (.double d4), (.double d5)] 11 = mkF m 0 #[oI 1, oI 1, oI 1, oD d3, oV, oD d4, oV, oD d5, oV, oU, oU] [] := by first | (simp [entryFrame, mkF, argsToLocals, Value.category]; done) | rfl
def Qw111 (Z : State) (d3 : UInt64) (d4 : UInt64) (d5 : UInt64) (x : Bool) (y : Bool) (z : Bool) (h0 : Heap) (n0 : Nat) (v : Option Value) (h : Heap) (L : List Loc) : Prop := v = some (.int (own_h111 x y z)) ∧ Fr n0 L ∧ (h = h0)
set_option maxRecDepth 65536 in
set_option maxHeartbeats 40000000 in
theorem rmw111 (l : Launch) (Z : State) (a0 : Array Value) (hw : ∀ d ∈ tables_1, d.before a0 Z = true) (ws : List Jvm.Cond) (d3 : UInt64) (d4 : UInt64) (d5 : UInt64) (x : Bool) (y : Bool) (z : Bool) (h0 : Heap) (n0 : Nat) (Z0 : n0 ≤ h0.size) (cx : (0 : Int32) < (cmpValue (FP.dcmp d3 d4) .g) ↔ x = true) (cy : (0 : Int32) < (cmpValue (FP.dcmp d3 d5) .g) ↔ y = true) (cz : (0 : Int32) < (cmpValue (FP.dcmp d4 d5) .g) ↔ z = true) (cxr : (cmpValue (FP.dcmp d4 d3) .g) < (0 : Int32) ↔ x = true) :
    MetFree l (⟨"com/example/metasearch/metasearch/EmptyClustersFillPinLaw", "worst", "(ZZZDDD)I"⟩ : MethodName) (head1 (Jvm.Cond.code (⟨"com/example/metasearch/metasearch/EmptyClustersFillPinLaw", "worst", "(ZZZDDD)I"⟩ : MethodName) method_2_code 11 (some .int) :: ws) ({ frames := 0, cells := 0, slots := 0, locals := 0 } : Room)) (fun a U => a = #[(.int 1), (.int 1), (.int 1), (.double d3), (.double d4), (.double d5)] ∧ Z.Warmed39 U.vm ∧ U.heap = h0) (fun _ _ _ _ _ => True) (fun _ U o U' => ∃ v L, o = .returned v ∧ Qw111 Z d3 d4 d5 x y z h0 n0 v U'.heap L ∧ FrameEnd U o U' L ({ frames := 0, cells := 0, slots := 0, locals := 0 } : Room).cells ({ frames := 0, cells := 0, slots := 0, locals := 0 } : Room).slots) := by
  refine MetFree.of_bodySF (plainFor_of_name pn0) hisR ?_
  intro p e s m args below meth c s₁ Bd hml0 hP hK
  obtain ⟨rfl, hZ, hh⟩ := hP
  have hx := Bd.exec
  have hby := Bd.bytes
  have hml : c.maxLocals = 11 := hml0
  have hown : s.vm.findClass "com/example/metasearch/metasearch/EmptyClustersFillPinLaw" = some m.cls := findClass_of_methodNamed Bd.named
  have hnm := (name_of_methodNamed Bd.named Bd.method).1
  have X0 : Stand p l e ({ frames := 0, cells := 0, slots := 0, locals := 0 } : Room) s m #[(.int 1), (.int 1), (.int 1), (.double d3), (.double d4), (.double d5)] below meth c s₁ [] 0 0 := Stand.of_body Bd
  have e0 : s₁.heap = h0 := by rw [← hh, Bd.state]; rfl
  have N0 := Fr.nil n0
  have pre0 : ∀ t, Steps p.tables e below (s₁.setTop (mkF m 0 #[oI 1, oI 1, oI 1, oD d3, oV, oD d4, oV, oD d5, oV, oU, oU] [])) t → Steps p.tables e below (s₁.setTop (entryFrame m #[(.int 1), (.int 1), (.int 1), (.double d3), (.double d4), (.double d5)] 11)) t := fun t k => castTop (efw111 m d3 d4 d5) k
  have pre101 : ∀ t, Steps p.tables e below (s₁.setTop (mkF m 12 #[oI 1, oI 1, oI 1, oD d3, oV, oD d4, oV, oD d5, oV, oU, oU] [(.int (cmpValue (FP.dcmp d3 d4) .g))])) t → Steps p.tables e below (s₁.setTop (mkF m 0 #[oI 1, oI 1, oI 1, oD d3, oV, oD d4, oV, oD d5, oV, oU, oU] [])) t := by
    intro t kt
    show own_S p e below s₁ m 0 #[oI 1, oI 1, oI 1, oD d3, oV, oD d4, oV, oD d5, oV, oU, oU] [] _
    refine XS.iloadN X0.here hx rfl (hb hby d2_0) rfl ?_
    show own_S p e below s₁ m 1 _ [(.int 1)] _
    refine XS.ifNo X0.here hx rfl (hb hby d2_1) rfl ((if0 _ _).trans (feq (by decide : ¬ ((1 : Int32) = (0 : Int32)))).1) ?_
    show own_S p e below s₁ m 4 _ [] _
    refine XS.iloadN X0.here hx rfl (hb hby d2_4) rfl ?_
    show own_S p e below s₁ m 5 _ [(.int 1)] _
    refine XS.ifNo X0.here hx rfl (hb hby d2_5) rfl ((if0 _ _).trans (feq (by decide : ¬ ((1 : Int32) = (0 : Int32)))).1) ?_
    show own_S p e below s₁ m 8 _ [] _
    refine XS.dloadN X0.here hx rfl (hb hby d2_8) rfl ?_
    show own_S p e below s₁ m 9 _ [(.double d3)] _
    refine XS.dload X0.here hx rfl (hb hby d2_9) rfl ?_
    show own_S p e below s₁ m 11 _ [(.double d4), (.double d3)] _
    refine XS.dcmpS X0.here hx rfl (v := (cmpValue (FP.dcmp d3 d4) .g)) (hb hby d2_11) rfl rfl ?_
    exact kt
  by_cases qx : (0 : Int32) < (cmpValue (FP.dcmp d3 d4) .g)
  · skip
    have pre102 : ∀ t, Steps p.tables e below (s₁.setTop (mkF m 57 #[oI 1, oI 1, oI 1, oD d3, oV, oD d4, oV, oD d5, oV, oI 0, oU] [(.int (cmpValue (FP.dcmp d4 d5) .g))])) t → Steps p.tables e below (s₁.setTop (mkF m 0 #[oI 1, oI 1, oI 1, oD d3, oV, oD d4, oV, oD d5, oV, oU, oU] [])) t := by
      intro t kt
      refine pre101 _ ?_
      show own_S p e below s₁ m 12 #[oI 1, oI 1, oI 1, oD d3, oV, oD d4, oV, oD d5, oV, oU, oU] [(.int (cmpValue (FP.dcmp d3 d4) .g))] _
      refine XS.ifYes X0.here hx rfl (pc0 := 12) (pc' := 30) rfl (hb hby d2_12) rfl ((if0 _ _).trans (tlt (qx : (0 : Int32) < (cmpValue (FP.dcmp d3 d4) .g))).2.2.1) (by decide) (by decide) ?_
      show own_S p e below s₁ m 30 _ [] _
      refine XS.iconst X0.here hx rfl (hb hby d2_30) ?_
      show own_S p e below s₁ m 31 _ [(.int 0)] _
      refine XS.istore X0.here hx rfl (hb hby d2_31) rfl (l' := #[oI 1, oI 1, oI 1, oD d3, oV, oD d4, oV, oD d5, oV, oI 0, oU]) rfl ?_
      show own_S p e below s₁ m 33 #[oI 1, oI 1, oI 1, oD d3, oV, oD d4, oV, oD d5, oV, oI 0, oU] [] _
      refine XS.iloadN X0.here hx rfl (hb hby d2_33) rfl ?_
      show own_S p e below s₁ m 34 _ [(.int 1)] _
      refine XS.ifNo X0.here hx rfl (hb hby d2_34) rfl ((if0 _ _).trans (feq (by decide : ¬ ((1 : Int32) = (0 : Int32)))).1) ?_
      show own_S p e below s₁ m 37 _ [] _
      refine XS.iloadN X0.here hx rfl (hb hby d2_37) rfl ?_
      show own_S p e below s₁ m 38 _ [(.int 1)] _
      refine XS.ifNo X0.here hx rfl (hb hby d2_38) rfl ((if0 _ _).trans (feq (by decide : ¬ ((1 : Int32) = (0 : Int32)))).1) ?_
      show own_S p e below s₁ m 41 _ [] _
      refine XS.dload X0.here hx rfl (hb hby d2_41) rfl ?_
      show own_S p e below s₁ m 43 _ [(.double d4)] _
      refine XS.dloadN X0.here hx rfl (hb hby d2_43) rfl ?_
      show own_S p e below s₁ m 44 _ [(.double d3), (.double d4)] _
      refine XS.dcmpS X0.here hx rfl (v := (cmpValue (FP.dcmp d4 d3) .g)) (hb hby d2_44) rfl rfl ?_
      show own_S p e below s₁ m 45 #[oI 1, oI 1, oI 1, oD d3, oV, oD d4, oV, oD d5, oV, oI 0, oU] [(.int (cmpValue (FP.dcmp d4 d3) .g))] _
      refine XS.ifNo X0.here hx rfl (hb hby d2_45) rfl ((if0 _ _).trans (tlt ((cxr.mpr (cx.mp qx)) : (cmpValue (FP.dcmp d4 d3) .g) < (0 : Int32))).2.1) ?_
      show own_S p e below s₁ m 48 _ [] _
      refine XS.iloadN X0.here hx rfl (hb hby d2_48) rfl ?_
      show own_S p e below s₁ m 49 _ [(.int 1)] _
      refine XS.ifNo X0.here hx rfl (hb hby d2_49) rfl ((if0 _ _).trans (feq (by decide : ¬ ((1 : Int32) = (0 : Int32)))).1) ?_
      show own_S p e below s₁ m 52 _ [] _
      refine XS.dload X0.here hx rfl (hb hby d2_52) rfl ?_
      show own_S p e below s₁ m 54 _ [(.double d4)] _
      refine XS.dload X0.here hx rfl (hb hby d2_54) rfl ?_
      show own_S p e below s₁ m 56 _ [(.double d5), (.double d4)] _
      refine XS.dcmpS X0.here hx rfl (v := (cmpValue (FP.dcmp d4 d5) .g)) (hb hby d2_56) rfl rfl ?_
      exact kt
    by_cases qz : (0 : Int32) < (cmpValue (FP.dcmp d4 d5) .g)
    · skip
      obtain ⟨fs, hr, hrun, hended, hW, hsame⟩ := X0.leave (v := some (.int 2)) (fun h => by rw [Bd.returns] at h; cases h)
      refine ⟨_, _, pre0 _ (pre102 _ ?_), hrun, hended, _, _, rfl, ?_, ⟨_, rfl⟩, hW, hsame.mono (by decide) (by decide)⟩
      · show own_S p e below s₁ m 57 #[oI 1, oI 1, oI 1, oD d3, oV, oD d4, oV, oD d5, oV, oI 0, oU] [(.int (cmpValue (FP.dcmp d4 d5) .g))] _
        refine XS.ifYes X0.here hx rfl (pc0 := 57) (pc' := 64) rfl (hb hby d2_57) rfl ((if0 _ _).trans (tlt (qz : (0 : Int32) < (cmpValue (FP.dcmp d4 d5) .g))).2.2.1) (by decide) (by decide) ?_
        show own_S p e below s₁ m 64 _ [] _
        refine XS.iconst X0.here hx rfl (hb hby d2_64) ?_
        show own_S p e below s₁ m 65 _ [(.int 0)] _
        refine XS.istore X0.here hx rfl (hb hby d2_65) rfl (l' := #[oI 1, oI 1, oI 1, oD d3, oV, oD d4, oV, oD d5, oV, oI 0, oI 0]) rfl ?_
        show own_S p e below s₁ m 67 #[oI 1, oI 1, oI 1, oD d3, oV, oD d4, oV, oD d5, oV, oI 0, oI 0] [] _
        refine XS.iload X0.here hx rfl (hb hby d2_67) rfl ?_
        show own_S p e below s₁ m 69 _ [(.int 0)] _
        refine XS.ifYes X0.here hx rfl (pc0 := 69) (pc' := 76) rfl (hb hby d2_69) rfl ((if0 _ _).trans (teq (by decide : (0 : Int32) = (0 : Int32))).1) (by decide) (by decide) ?_
        show own_S p e below s₁ m 76 _ [] _
        refine XS.iload X0.here hx rfl (hb hby d2_76) rfl ?_
        show own_S p e below s₁ m 78 _ [(.int 0)] _
        refine XS.ifYes X0.here hx rfl (pc0 := 78) (pc' := 85) rfl (hb hby d2_78) rfl ((if0 _ _).trans (teq (by decide : (0 : Int32) = (0 : Int32))).1) (by decide) (by decide) ?_
        show own_S p e below s₁ m 85 _ [] _
        refine XS.iconst X0.here hx rfl (hb hby d2_85) ?_
        show own_S p e below s₁ m 86 _ [(.int 2)] _
        exact retOut X0 hx Bd.returns rfl (Or.inl ⟨rfl, Or.inl rfl, _, rfl⟩) (hb hby d2_86) hr
      · show Qw111 Z d3 d4 d5 x y z h0 n0 _ s₁.heap _
        rw [e0]
        exact ⟨(by rw [cx.mp qx, cz.mp qz]; rfl), N0, rfl⟩
    · skip
      obtain ⟨fs, hr, hrun, hended, hW, hsame⟩ := X0.leave (v := some (.int 1)) (fun h => by rw [Bd.returns] at h; cases h)
      refine ⟨_, _, pre0 _ (pre102 _ ?_), hrun, hended, _, _, rfl, ?_, ⟨_, rfl⟩, hW, hsame.mono (by decide) (by decide)⟩
      · show own_S p e below s₁ m 57 #[oI 1, oI 1, oI 1, oD d3, oV, oD d4, oV, oD d5, oV, oI 0, oU] [(.int (cmpValue (FP.dcmp d4 d5) .g))] _
        refine XS.ifNo X0.here hx rfl (hb hby d2_57) rfl ((if0 _ _).trans (flt (qz : ¬ ((0 : Int32) < (cmpValue (FP.dcmp d4 d5) .g)))).2.2.1) ?_
        show own_S p e below s₁ m 60 _ [] _
        refine XS.iconst X0.here hx rfl (hb hby d2_60) ?_
        show own_S p e below s₁ m 61 _ [(.int 1)] _
        refine XS.goto X0.here hx rfl (pc0 := 61) (pc' := 65) rfl (hb hby d2_61) (by decide) (by decide) ?_
        show own_S p e below s₁ m 65 _ [(.int 1)] _
        refine XS.istore X0.here hx rfl (hb hby d2_65) rfl (l' := #[oI 1, oI 1, oI 1, oD d3, oV, oD d4, oV, oD d5, oV, oI 0, oI 1]) rfl ?_
        show own_S p e below s₁ m 67 #[oI 1, oI 1, oI 1, oD d3, oV, oD d4, oV, oD d5, oV, oI 0, oI 1] [] _
        refine XS.iload X0.here hx rfl (hb hby d2_67) rfl ?_
        show own_S p e below s₁ m 69 _ [(.int 0)] _
        refine XS.ifYes X0.here hx rfl (pc0 := 69) (pc' := 76) rfl (hb hby d2_69) rfl ((if0 _ _).trans (teq (by decide : (0 : Int32) = (0 : Int32))).1) (by decide) (by decide) ?_
        show own_S p e below s₁ m 76 _ [] _
        refine XS.iload X0.here hx rfl (hb hby d2_76) rfl ?_
        show own_S p e below s₁ m 78 _ [(.int 1)] _
        refine XS.ifNo X0.here hx rfl (hb hby d2_78) rfl ((if0 _ _).trans (feq (by decide : ¬ ((1 : Int32) = (0 : Int32)))).1) ?_
        show own_S p e below s₁ m 81 _ [] _
        refine XS.iconst X0.here hx rfl (hb hby d2_81) ?_
        show own_S p e below s₁ m 82 _ [(.int 1)] _
        refine XS.goto X0.here hx rfl (pc0 := 82) (pc' := 86) rfl (hb hby d2_82) (by decide) (by decide) ?_
        show own_S p e below s₁ m 86 _ [(.int 1)] _
        exact retOut X0 hx Bd.returns rfl (Or.inl ⟨rfl, Or.inl rfl, _, rfl⟩) (hb hby d2_86) hr
      · show Qw111 Z d3 d4 d5 x y z h0 n0 _ s₁.heap _
        rw [e0]
        exact ⟨(by rw [cx.mp qx, own_bf cz qz]; rfl), N0, rfl⟩
  · skip
    have pre103 : ∀ t, Steps p.tables e below (s₁.setTop (mkF m 23 #[oI 1, oI 1, oI 1, oD d3, oV, oD d4, oV, oD d5, oV, oU, oU] [(.int (cmpValue (FP.dcmp d3 d5) .g))])) t → Steps p.tables e below (s₁.setTop (mkF m 0 #[oI 1, oI 1, oI 1, oD d3, oV, oD d4, oV, oD d5, oV, oU, oU] [])) t := by
      intro t kt
      refine pre101 _ ?_
      show own_S p e below s₁ m 12 #[oI 1, oI 1, oI 1, oD d3, oV, oD d4, oV, oD d5, oV, oU, oU] [(.int (cmpValue (FP.dcmp d3 d4) .g))] _
      refine XS.ifNo X0.here hx rfl (hb hby d2_12) rfl ((if0 _ _).trans (flt (qx : ¬ ((0 : Int32) < (cmpValue (FP.dcmp d3 d4) .g)))).2.2.1) ?_
      show own_S p e below s₁ m 15 _ [] _
      refine XS.iloadN X0.here hx rfl (hb hby d2_15) rfl ?_
      show own_S p e below s₁ m 16 _ [(.int 1)] _
      refine XS.ifNo X0.here hx rfl (hb hby d2_16) rfl ((if0 _ _).trans (feq (by decide : ¬ ((1 : Int32) = (0 : Int32)))).1) ?_
      show own_S p e below s₁ m 19 _ [] _
      refine XS.dloadN X0.here hx rfl (hb hby d2_19) rfl ?_
      show own_S p e below s₁ m 20 _ [(.double d3)] _
      refine XS.dload X0.here hx rfl (hb hby d2_20) rfl ?_
      show own_S p e below s₁ m 22 _ [(.double d5), (.double d3)] _
      refine XS.dcmpS X0.here hx rfl (v := (cmpValue (FP.dcmp d3 d5) .g)) (hb hby d2_22) rfl rfl ?_
      exact kt
    by_cases qy : (0 : Int32) < (cmpValue (FP.dcmp d3 d5) .g)
    · skip
      obtain ⟨fs, hr, hrun, hended, hW, hsame⟩ := X0.leave (v := some (.int 2)) (fun h => by rw [Bd.returns] at h; cases h)
      refine ⟨_, _, pre0 _ (pre103 _ ?_), hrun, hended, _, _, rfl, ?_, ⟨_, rfl⟩, hW, hsame.mono (by decide) (by decide)⟩
      · show own_S p e below s₁ m 23 #[oI 1, oI 1, oI 1, oD d3, oV, oD d4, oV, oD d5, oV, oU, oU] [(.int (cmpValue (FP.dcmp d3 d5) .g))] _
        refine XS.ifYes X0.here hx rfl (pc0 := 23) (pc' := 30) rfl (hb hby d2_23) rfl ((if0 _ _).trans (tlt (qy : (0 : Int32) < (cmpValue (FP.dcmp d3 d5) .g))).2.2.1) (by decide) (by decide) ?_
        show own_S p e below s₁ m 30 _ [] _
        refine XS.iconst X0.here hx rfl (hb hby d2_30) ?_
        show own_S p e below s₁ m 31 _ [(.int 0)] _
        refine XS.istore X0.here hx rfl (hb hby d2_31) rfl (l' := #[oI 1, oI 1, oI 1, oD d3, oV, oD d4, oV, oD d5, oV, oI 0, oU]) rfl ?_
        show own_S p e below s₁ m 33 #[oI 1, oI 1, oI 1, oD d3, oV, oD d4, oV, oD d5, oV, oI 0, oU] [] _
        refine XS.iloadN X0.here hx rfl (hb hby d2_33) rfl ?_
        show own_S p e below s₁ m 34 _ [(.int 1)] _
        refine XS.ifNo X0.here hx rfl (hb hby d2_34) rfl ((if0 _ _).trans (feq (by decide : ¬ ((1 : Int32) = (0 : Int32)))).1) ?_
        show own_S p e below s₁ m 37 _ [] _
        refine XS.iloadN X0.here hx rfl (hb hby d2_37) rfl ?_
        show own_S p e below s₁ m 38 _ [(.int 1)] _
        refine XS.ifNo X0.here hx rfl (hb hby d2_38) rfl ((if0 _ _).trans (feq (by decide : ¬ ((1 : Int32) = (0 : Int32)))).1) ?_
        show own_S p e below s₁ m 41 _ [] _
        refine XS.dload X0.here hx rfl (hb hby d2_41) rfl ?_
        show own_S p e below s₁ m 43 _ [(.double d4)] _
        refine XS.dloadN X0.here hx rfl (hb hby d2_43) rfl ?_
        show own_S p e below s₁ m 44 _ [(.double d3), (.double d4)] _
        refine XS.dcmpS X0.here hx rfl (v := (cmpValue (FP.dcmp d4 d3) .g)) (hb hby d2_44) rfl rfl ?_
        show own_S p e below s₁ m 45 #[oI 1, oI 1, oI 1, oD d3, oV, oD d4, oV, oD d5, oV, oI 0, oU] [(.int (cmpValue (FP.dcmp d4 d3) .g))] _
        refine XS.ifYes X0.here hx rfl (pc0 := 45) (pc' := 64) rfl (hb hby d2_45) rfl ((if0 _ _).trans (flt ((fun q => qx (cx.mpr (cxr.mp q))) : ¬ ((cmpValue (FP.dcmp d4 d3) .g) < (0 : Int32)))).2.1) (by decide) (by decide) ?_
        show own_S p e below s₁ m 64 _ [] _
        refine XS.iconst X0.here hx rfl (hb hby d2_64) ?_
        show own_S p e below s₁ m 65 _ [(.int 0)] _
        refine XS.istore X0.here hx rfl (hb hby d2_65) rfl (l' := #[oI 1, oI 1, oI 1, oD d3, oV, oD d4, oV, oD d5, oV, oI 0, oI 0]) rfl ?_
        show own_S p e below s₁ m 67 #[oI 1, oI 1, oI 1, oD d3, oV, oD d4, oV, oD d5, oV, oI 0, oI 0] [] _
        refine XS.iload X0.here hx rfl (hb hby d2_67) rfl ?_
        show own_S p e below s₁ m 69 _ [(.int 0)] _
        refine XS.ifYes X0.here hx rfl (pc0 := 69) (pc' := 76) rfl (hb hby d2_69) rfl ((if0 _ _).trans (teq (by decide : (0 : Int32) = (0 : Int32))).1) (by decide) (by decide) ?_
        show own_S p e below s₁ m 76 _ [] _
        refine XS.iload X0.here hx rfl (hb hby d2_76) rfl ?_
        show own_S p e below s₁ m 78 _ [(.int 0)] _
        refine XS.ifYes X0.here hx rfl (pc0 := 78) (pc' := 85) rfl (hb hby d2_78) rfl ((if0 _ _).trans (teq (by decide : (0 : Int32) = (0 : Int32))).1) (by decide) (by decide) ?_
        show own_S p e below s₁ m 85 _ [] _
        refine XS.iconst X0.here hx rfl (hb hby d2_85) ?_
        show own_S p e below s₁ m 86 _ [(.int 2)] _
        exact retOut X0 hx Bd.returns rfl (Or.inl ⟨rfl, Or.inl rfl, _, rfl⟩) (hb hby d2_86) hr
      · show Qw111 Z d3 d4 d5 x y z h0 n0 _ s₁.heap _
        rw [e0]
        exact ⟨(by rw [own_bf cx qx, cy.mp qy]; rfl), N0, rfl⟩
    · skip
      obtain ⟨fs, hr, hrun, hended, hW, hsame⟩ := X0.leave (v := some (.int 0)) (fun h => by rw [Bd.returns] at h; cases h)
      refine ⟨_, _, pre0 _ (pre103 _ ?_), hrun, hended, _, _, rfl, ?_, ⟨_, rfl⟩, hW, hsame.mono (by decide) (by decide)⟩
      · show own_S p e below s₁ m 23 #[oI 1, oI 1, oI 1, oD d3, oV, oD d4, oV, oD d5, oV, oU, oU] [(.int (cmpValue (FP.dcmp d3 d5) .g))] _
        refine XS.ifNo X0.here hx rfl (hb hby d2_23) rfl ((if0 _ _).trans (flt (qy : ¬ ((0 : Int32) < (cmpValue (FP.dcmp d3 d5) .g)))).2.2.1) ?_
        show own_S p e below s₁ m 26 _ [] _
        refine XS.iconst X0.here hx rfl (hb hby d2_26) ?_
        show own_S p e below s₁ m 27 _ [(.int 1)] _
        refine XS.goto X0.here hx rfl (pc0 := 27) (pc' := 31) rfl (hb hby d2_27) (by decide) (by decide) ?_
        show own_S p e below s₁ m 31 _ [(.int 1)] _
        refine XS.istore X0.here hx rfl (hb hby d2_31) rfl (l' := #[oI 1, oI 1, oI 1, oD d3, oV, oD d4, oV, oD d5, oV, oI 1, oU]) rfl ?_
        show own_S p e below s₁ m 33 #[oI 1, oI 1, oI 1, oD d3, oV, oD d4, oV, oD d5, oV, oI 1, oU] [] _
        refine XS.iloadN X0.here hx rfl (hb hby d2_33) rfl ?_
        show own_S p e below s₁ m 34 _ [(.int 1)] _
        refine XS.ifNo X0.here hx rfl (hb hby d2_34) rfl ((if0 _ _).trans (feq (by decide : ¬ ((1 : Int32) = (0 : Int32)))).1) ?_
        show own_S p e below s₁ m 37 _ [] _
        refine XS.iloadN X0.here hx rfl (hb hby d2_37) rfl ?_
        show own_S p e below s₁ m 38 _ [(.int 1)] _
        refine XS.ifNo X0.here hx rfl (hb hby d2_38) rfl ((if0 _ _).trans (feq (by decide : ¬ ((1 : Int32) = (0 : Int32)))).1) ?_
        show own_S p e below s₁ m 41 _ [] _
        refine XS.dload X0.here hx rfl (hb hby d2_41) rfl ?_
        show own_S p e below s₁ m 43 _ [(.double d4)] _
        refine XS.dloadN X0.here hx rfl (hb hby d2_43) rfl ?_
        show own_S p e below s₁ m 44 _ [(.double d3), (.double d4)] _
        refine XS.dcmpS X0.here hx rfl (v := (cmpValue (FP.dcmp d4 d3) .g)) (hb hby d2_44) rfl rfl ?_
        show own_S p e below s₁ m 45 #[oI 1, oI 1, oI 1, oD d3, oV, oD d4, oV, oD d5, oV, oI 1, oU] [(.int (cmpValue (FP.dcmp d4 d3) .g))] _
        refine XS.ifYes X0.here hx rfl (pc0 := 45) (pc' := 64) rfl (hb hby d2_45) rfl ((if0 _ _).trans (flt ((fun q => qx (cx.mpr (cxr.mp q))) : ¬ ((cmpValue (FP.dcmp d4 d3) .g) < (0 : Int32)))).2.1) (by decide) (by decide) ?_
        show own_S p e below s₁ m 64 _ [] _
        refine XS.iconst X0.here hx rfl (hb hby d2_64) ?_
        show own_S p e below s₁ m 65 _ [(.int 0)] _
        refine XS.istore X0.here hx rfl (hb hby d2_65) rfl (l' := #[oI 1, oI 1, oI 1, oD d3, oV, oD d4, oV, oD d5, oV, oI 1, oI 0]) rfl ?_
        show own_S p e below s₁ m 67 #[oI 1, oI 1, oI 1, oD d3, oV, oD d4, oV, oD d5, oV, oI 1, oI 0] [] _
        refine XS.iload X0.here hx rfl (hb hby d2_67) rfl ?_
        show own_S p e below s₁ m 69 _ [(.int 1)] _
        refine XS.ifNo X0.here hx rfl (hb hby d2_69) rfl ((if0 _ _).trans (feq (by decide : ¬ ((1 : Int32) = (0 : Int32)))).1) ?_
        show own_S p e below s₁ m 72 _ [] _
        refine XS.iconst X0.here hx rfl (hb hby d2_72) ?_
        show own_S p e below s₁ m 73 _ [(.int 0)] _
        refine XS.goto X0.here hx rfl (pc0 := 73) (pc' := 86) rfl (hb hby d2_73) (by decide) (by decide) ?_
        show own_S p e below s₁ m 86 _ [(.int 0)] _
        exact retOut X0 hx Bd.returns rfl (Or.inl ⟨rfl, Or.inl rfl, _, rfl⟩) (hb hby d2_86) hr
      · show Qw111 Z d3 d4 d5 x y z h0 n0 _ s₁.heap _
        rw [e0]
        exact ⟨(by rw [own_bf cx qx, own_bf cy qy]; rfl), N0, rfl⟩
theorem efw110 (m : MethodId) (d3 : UInt64) (d4 : UInt64) (d5 : UInt64) : entryFrame m #[(.int 1), (.int 1), (.int 0), (.double d3), (.double d4), (.double d5)] 11 = mkF m 0 #[oI 1, oI 1, oI 0, oD d3, oV, oD d4, oV, oD d5, oV, oU, oU] [] := by first | (simp [entryFrame, mkF, argsToLocals, Value.category]; done) | rfl
def Qw110 (Z : State) (d3 : UInt64) (d4 : UInt64) (d5 : UInt64) (x : Bool) (y : Bool) (z : Bool) (h0 : Heap) (n0 : Nat) (v : Option Value) (h : Heap) (L : List Loc) : Prop := v = some (.int (own_h110 x)) ∧ Fr n0 L ∧ (h = h0)
set_option maxRecDepth 65536 in
set_option maxHeartbeats 40000000 in
theorem rmw110 (l : Launch) (Z : State) (a0 : Array Value) (hw : ∀ d ∈ tables_1, d.before a0 Z = true) (ws : List Jvm.Cond) (d3 : UInt64) (d4 : UInt64) (d5 : UInt64) (x : Bool) (y : Bool) (z : Bool) (h0 : Heap) (n0 : Nat) (Z0 : n0 ≤ h0.size) (cx : (0 : Int32) < (cmpValue (FP.dcmp d3 d4) .g) ↔ x = true) (cy : (0 : Int32) < (cmpValue (FP.dcmp d3 d5) .g) ↔ y = true) (cz : (0 : Int32) < (cmpValue (FP.dcmp d4 d5) .g) ↔ z = true) (cxr : (cmpValue (FP.dcmp d4 d3) .g) < (0 : Int32) ↔ x = true) :
    MetFree l (⟨"com/example/metasearch/metasearch/EmptyClustersFillPinLaw", "worst", "(ZZZDDD)I"⟩ : MethodName) (head1 (Jvm.Cond.code (⟨"com/example/metasearch/metasearch/EmptyClustersFillPinLaw", "worst", "(ZZZDDD)I"⟩ : MethodName) method_2_code 11 (some .int) :: ws) ({ frames := 0, cells := 0, slots := 0, locals := 0 } : Room)) (fun a U => a = #[(.int 1), (.int 1), (.int 0), (.double d3), (.double d4), (.double d5)] ∧ Z.Warmed39 U.vm ∧ U.heap = h0) (fun _ _ _ _ _ => True) (fun _ U o U' => ∃ v L, o = .returned v ∧ Qw110 Z d3 d4 d5 x y z h0 n0 v U'.heap L ∧ FrameEnd U o U' L ({ frames := 0, cells := 0, slots := 0, locals := 0 } : Room).cells ({ frames := 0, cells := 0, slots := 0, locals := 0 } : Room).slots) := by
  refine MetFree.of_bodySF (plainFor_of_name pn0) hisR ?_
  intro p e s m args below meth c s₁ Bd hml0 hP hK
  obtain ⟨rfl, hZ, hh⟩ := hP
  have hx := Bd.exec
  have hby := Bd.bytes
  have hml : c.maxLocals = 11 := hml0
  have hown : s.vm.findClass "com/example/metasearch/metasearch/EmptyClustersFillPinLaw" = some m.cls := findClass_of_methodNamed Bd.named
  have hnm := (name_of_methodNamed Bd.named Bd.method).1
  have X0 : Stand p l e ({ frames := 0, cells := 0, slots := 0, locals := 0 } : Room) s m #[(.int 1), (.int 1), (.int 0), (.double d3), (.double d4), (.double d5)] below meth c s₁ [] 0 0 := Stand.of_body Bd
  have e0 : s₁.heap = h0 := by rw [← hh, Bd.state]; rfl
  have N0 := Fr.nil n0
  have pre0 : ∀ t, Steps p.tables e below (s₁.setTop (mkF m 0 #[oI 1, oI 1, oI 0, oD d3, oV, oD d4, oV, oD d5, oV, oU, oU] [])) t → Steps p.tables e below (s₁.setTop (entryFrame m #[(.int 1), (.int 1), (.int 0), (.double d3), (.double d4), (.double d5)] 11)) t := fun t k => castTop (efw110 m d3 d4 d5) k
  have pre101 : ∀ t, Steps p.tables e below (s₁.setTop (mkF m 12 #[oI 1, oI 1, oI 0, oD d3, oV, oD d4, oV, oD d5, oV, oU, oU] [(.int (cmpValue (FP.dcmp d3 d4) .g))])) t → Steps p.tables e below (s₁.setTop (mkF m 0 #[oI 1, oI 1, oI 0, oD d3, oV, oD d4, oV, oD d5, oV, oU, oU] [])) t := by
    intro t kt
    show own_S p e below s₁ m 0 #[oI 1, oI 1, oI 0, oD d3, oV, oD d4, oV, oD d5, oV, oU, oU] [] _
    refine XS.iloadN X0.here hx rfl (hb hby d2_0) rfl ?_
    show own_S p e below s₁ m 1 _ [(.int 1)] _
    refine XS.ifNo X0.here hx rfl (hb hby d2_1) rfl ((if0 _ _).trans (feq (by decide : ¬ ((1 : Int32) = (0 : Int32)))).1) ?_
    show own_S p e below s₁ m 4 _ [] _
    refine XS.iloadN X0.here hx rfl (hb hby d2_4) rfl ?_
    show own_S p e below s₁ m 5 _ [(.int 1)] _
    refine XS.ifNo X0.here hx rfl (hb hby d2_5) rfl ((if0 _ _).trans (feq (by decide : ¬ ((1 : Int32) = (0 : Int32)))).1) ?_
    show own_S p e below s₁ m 8 _ [] _
    refine XS.dloadN X0.here hx rfl (hb hby d2_8) rfl ?_
    show own_S p e below s₁ m 9 _ [(.double d3)] _
    refine XS.dload X0.here hx rfl (hb hby d2_9) rfl ?_
    show own_S p e below s₁ m 11 _ [(.double d4), (.double d3)] _
    refine XS.dcmpS X0.here hx rfl (v := (cmpValue (FP.dcmp d3 d4) .g)) (hb hby d2_11) rfl rfl ?_
    exact kt
  by_cases qx : (0 : Int32) < (cmpValue (FP.dcmp d3 d4) .g)
  · skip
    obtain ⟨fs, hr, hrun, hended, hW, hsame⟩ := X0.leave (v := some (.int 1)) (fun h => by rw [Bd.returns] at h; cases h)
    refine ⟨_, _, pre0 _ (pre101 _ ?_), hrun, hended, _, _, rfl, ?_, ⟨_, rfl⟩, hW, hsame.mono (by decide) (by decide)⟩
    · show own_S p e below s₁ m 12 #[oI 1, oI 1, oI 0, oD d3, oV, oD d4, oV, oD d5, oV, oU, oU] [(.int (cmpValue (FP.dcmp d3 d4) .g))] _
      refine XS.ifYes X0.here hx rfl (pc0 := 12) (pc' := 30) rfl (hb hby d2_12) rfl ((if0 _ _).trans (tlt (qx : (0 : Int32) < (cmpValue (FP.dcmp d3 d4) .g))).2.2.1) (by decide) (by decide) ?_
      show own_S p e below s₁ m 30 _ [] _
      refine XS.iconst X0.here hx rfl (hb hby d2_30) ?_
      show own_S p e below s₁ m 31 _ [(.int 0)] _
      refine XS.istore X0.here hx rfl (hb hby d2_31) rfl (l' := #[oI 1, oI 1, oI 0, oD d3, oV, oD d4, oV, oD d5, oV, oI 0, oU]) rfl ?_
      show own_S p e below s₁ m 33 #[oI 1, oI 1, oI 0, oD d3, oV, oD d4, oV, oD d5, oV, oI 0, oU] [] _
      refine XS.iloadN X0.here hx rfl (hb hby d2_33) rfl ?_
      show own_S p e below s₁ m 34 _ [(.int 1)] _
      refine XS.ifNo X0.here hx rfl (hb hby d2_34) rfl ((if0 _ _).trans (feq (by decide : ¬ ((1 : Int32) = (0 : Int32)))).1) ?_
      show own_S p e below s₁ m 37 _ [] _
      refine XS.iloadN X0.here hx rfl (hb hby d2_37) rfl ?_
      show own_S p e below s₁ m 38 _ [(.int 1)] _
      refine XS.ifNo X0.here hx rfl (hb hby d2_38) rfl ((if0 _ _).trans (feq (by decide : ¬ ((1 : Int32) = (0 : Int32)))).1) ?_
      show own_S p e below s₁ m 41 _ [] _
      refine XS.dload X0.here hx rfl (hb hby d2_41) rfl ?_
      show own_S p e below s₁ m 43 _ [(.double d4)] _
      refine XS.dloadN X0.here hx rfl (hb hby d2_43) rfl ?_
      show own_S p e below s₁ m 44 _ [(.double d3), (.double d4)] _
      refine XS.dcmpS X0.here hx rfl (v := (cmpValue (FP.dcmp d4 d3) .g)) (hb hby d2_44) rfl rfl ?_
      show own_S p e below s₁ m 45 #[oI 1, oI 1, oI 0, oD d3, oV, oD d4, oV, oD d5, oV, oI 0, oU] [(.int (cmpValue (FP.dcmp d4 d3) .g))] _
      refine XS.ifNo X0.here hx rfl (hb hby d2_45) rfl ((if0 _ _).trans (tlt ((cxr.mpr (cx.mp qx)) : (cmpValue (FP.dcmp d4 d3) .g) < (0 : Int32))).2.1) ?_
      show own_S p e below s₁ m 48 _ [] _
      refine XS.iloadN X0.here hx rfl (hb hby d2_48) rfl ?_
      show own_S p e below s₁ m 49 _ [(.int 0)] _
      refine XS.ifYes X0.here hx rfl (pc0 := 49) (pc' := 60) rfl (hb hby d2_49) rfl ((if0 _ _).trans (teq (by decide : (0 : Int32) = (0 : Int32))).1) (by decide) (by decide) ?_
      show own_S p e below s₁ m 60 _ [] _
      refine XS.iconst X0.here hx rfl (hb hby d2_60) ?_
      show own_S p e below s₁ m 61 _ [(.int 1)] _
      refine XS.goto X0.here hx rfl (pc0 := 61) (pc' := 65) rfl (hb hby d2_61) (by decide) (by decide) ?_
      show own_S p e below s₁ m 65 _ [(.int 1)] _
      refine XS.istore X0.here hx rfl (hb hby d2_65) rfl (l' := #[oI 1, oI 1, oI 0, oD d3, oV, oD d4, oV, oD d5, oV, oI 0, oI 1]) rfl ?_
      show own_S p e below s₁ m 67 #[oI 1, oI 1, oI 0, oD d3, oV, oD d4, oV, oD d5, oV, oI 0, oI 1] [] _
      refine XS.iload X0.here hx rfl (hb hby d2_67) rfl ?_
      show own_S p e below s₁ m 69 _ [(.int 0)] _
      refine XS.ifYes X0.here hx rfl (pc0 := 69) (pc' := 76) rfl (hb hby d2_69) rfl ((if0 _ _).trans (teq (by decide : (0 : Int32) = (0 : Int32))).1) (by decide) (by decide) ?_
      show own_S p e below s₁ m 76 _ [] _
      refine XS.iload X0.here hx rfl (hb hby d2_76) rfl ?_
      show own_S p e below s₁ m 78 _ [(.int 1)] _
      refine XS.ifNo X0.here hx rfl (hb hby d2_78) rfl ((if0 _ _).trans (feq (by decide : ¬ ((1 : Int32) = (0 : Int32)))).1) ?_
      show own_S p e below s₁ m 81 _ [] _
      refine XS.iconst X0.here hx rfl (hb hby d2_81) ?_
      show own_S p e below s₁ m 82 _ [(.int 1)] _
      refine XS.goto X0.here hx rfl (pc0 := 82) (pc' := 86) rfl (hb hby d2_82) (by decide) (by decide) ?_
      show own_S p e below s₁ m 86 _ [(.int 1)] _
      exact retOut X0 hx Bd.returns rfl (Or.inl ⟨rfl, Or.inl rfl, _, rfl⟩) (hb hby d2_86) hr
    · show Qw110 Z d3 d4 d5 x y z h0 n0 _ s₁.heap _
      rw [e0]
      exact ⟨(by rw [cx.mp qx]; rfl), N0, rfl⟩
  · skip
    obtain ⟨fs, hr, hrun, hended, hW, hsame⟩ := X0.leave (v := some (.int 0)) (fun h => by rw [Bd.returns] at h; cases h)
    refine ⟨_, _, pre0 _ (pre101 _ ?_), hrun, hended, _, _, rfl, ?_, ⟨_, rfl⟩, hW, hsame.mono (by decide) (by decide)⟩
    · show own_S p e below s₁ m 12 #[oI 1, oI 1, oI 0, oD d3, oV, oD d4, oV, oD d5, oV, oU, oU] [(.int (cmpValue (FP.dcmp d3 d4) .g))] _
      refine XS.ifNo X0.here hx rfl (hb hby d2_12) rfl ((if0 _ _).trans (flt (qx : ¬ ((0 : Int32) < (cmpValue (FP.dcmp d3 d4) .g)))).2.2.1) ?_
      show own_S p e below s₁ m 15 _ [] _
      refine XS.iloadN X0.here hx rfl (hb hby d2_15) rfl ?_
      show own_S p e below s₁ m 16 _ [(.int 0)] _
      refine XS.ifYes X0.here hx rfl (pc0 := 16) (pc' := 26) rfl (hb hby d2_16) rfl ((if0 _ _).trans (teq (by decide : (0 : Int32) = (0 : Int32))).1) (by decide) (by decide) ?_
      show own_S p e below s₁ m 26 _ [] _
      refine XS.iconst X0.here hx rfl (hb hby d2_26) ?_
      show own_S p e below s₁ m 27 _ [(.int 1)] _
      refine XS.goto X0.here hx rfl (pc0 := 27) (pc' := 31) rfl (hb hby d2_27) (by decide) (by decide) ?_
      show own_S p e below s₁ m 31 _ [(.int 1)] _
      refine XS.istore X0.here hx rfl (hb hby d2_31) rfl (l' := #[oI 1, oI 1, oI 0, oD d3, oV, oD d4, oV, oD d5, oV, oI 1, oU]) rfl ?_
      show own_S p e below s₁ m 33 #[oI 1, oI 1, oI 0, oD d3, oV, oD d4, oV, oD d5, oV, oI 1, oU] [] _
      refine XS.iloadN X0.here hx rfl (hb hby d2_33) rfl ?_
      show own_S p e below s₁ m 34 _ [(.int 1)] _
      refine XS.ifNo X0.here hx rfl (hb hby d2_34) rfl ((if0 _ _).trans (feq (by decide : ¬ ((1 : Int32) = (0 : Int32)))).1) ?_
      show own_S p e below s₁ m 37 _ [] _
      refine XS.iloadN X0.here hx rfl (hb hby d2_37) rfl ?_
      show own_S p e below s₁ m 38 _ [(.int 1)] _
      refine XS.ifNo X0.here hx rfl (hb hby d2_38) rfl ((if0 _ _).trans (feq (by decide : ¬ ((1 : Int32) = (0 : Int32)))).1) ?_
      show own_S p e below s₁ m 41 _ [] _
      refine XS.dload X0.here hx rfl (hb hby d2_41) rfl ?_
      show own_S p e below s₁ m 43 _ [(.double d4)] _
      refine XS.dloadN X0.here hx rfl (hb hby d2_43) rfl ?_
      show own_S p e below s₁ m 44 _ [(.double d3), (.double d4)] _
      refine XS.dcmpS X0.here hx rfl (v := (cmpValue (FP.dcmp d4 d3) .g)) (hb hby d2_44) rfl rfl ?_
      show own_S p e below s₁ m 45 #[oI 1, oI 1, oI 0, oD d3, oV, oD d4, oV, oD d5, oV, oI 1, oU] [(.int (cmpValue (FP.dcmp d4 d3) .g))] _
      refine XS.ifYes X0.here hx rfl (pc0 := 45) (pc' := 64) rfl (hb hby d2_45) rfl ((if0 _ _).trans (flt ((fun q => qx (cx.mpr (cxr.mp q))) : ¬ ((cmpValue (FP.dcmp d4 d3) .g) < (0 : Int32)))).2.1) (by decide) (by decide) ?_
      show own_S p e below s₁ m 64 _ [] _
      refine XS.iconst X0.here hx rfl (hb hby d2_64) ?_
      show own_S p e below s₁ m 65 _ [(.int 0)] _
      refine XS.istore X0.here hx rfl (hb hby d2_65) rfl (l' := #[oI 1, oI 1, oI 0, oD d3, oV, oD d4, oV, oD d5, oV, oI 1, oI 0]) rfl ?_
      show own_S p e below s₁ m 67 #[oI 1, oI 1, oI 0, oD d3, oV, oD d4, oV, oD d5, oV, oI 1, oI 0] [] _
      refine XS.iload X0.here hx rfl (hb hby d2_67) rfl ?_
      show own_S p e below s₁ m 69 _ [(.int 1)] _
      refine XS.ifNo X0.here hx rfl (hb hby d2_69) rfl ((if0 _ _).trans (feq (by decide : ¬ ((1 : Int32) = (0 : Int32)))).1) ?_
      show own_S p e below s₁ m 72 _ [] _
      refine XS.iconst X0.here hx rfl (hb hby d2_72) ?_
      show own_S p e below s₁ m 73 _ [(.int 0)] _
      refine XS.goto X0.here hx rfl (pc0 := 73) (pc' := 86) rfl (hb hby d2_73) (by decide) (by decide) ?_
      show own_S p e below s₁ m 86 _ [(.int 0)] _
      exact retOut X0 hx Bd.returns rfl (Or.inl ⟨rfl, Or.inl rfl, _, rfl⟩) (hb hby d2_86) hr
    · show Qw110 Z d3 d4 d5 x y z h0 n0 _ s₁.heap _
      rw [e0]
      exact ⟨(by rw [own_bf cx qx]; rfl), N0, rfl⟩
theorem efw101 (m : MethodId) (d3 : UInt64) (d4 : UInt64) (d5 : UInt64) : entryFrame m #[(.int 1), (.int 0), (.int 1), (.double d3), (.double d4), (.double d5)] 11 = mkF m 0 #[oI 1, oI 0, oI 1, oD d3, oV, oD d4, oV, oD d5, oV, oU, oU] [] := by first | (simp [entryFrame, mkF, argsToLocals, Value.category]; done) | rfl
def Qw101 (Z : State) (d3 : UInt64) (d4 : UInt64) (d5 : UInt64) (x : Bool) (y : Bool) (z : Bool) (h0 : Heap) (n0 : Nat) (v : Option Value) (h : Heap) (L : List Loc) : Prop := v = some (.int (own_h101 y)) ∧ Fr n0 L ∧ (h = h0)
set_option maxRecDepth 65536 in
set_option maxHeartbeats 40000000 in
theorem rmw101 (l : Launch) (Z : State) (a0 : Array Value) (hw : ∀ d ∈ tables_1, d.before a0 Z = true) (ws : List Jvm.Cond) (d3 : UInt64) (d4 : UInt64) (d5 : UInt64) (x : Bool) (y : Bool) (z : Bool) (h0 : Heap) (n0 : Nat) (Z0 : n0 ≤ h0.size) (cx : (0 : Int32) < (cmpValue (FP.dcmp d3 d4) .g) ↔ x = true) (cy : (0 : Int32) < (cmpValue (FP.dcmp d3 d5) .g) ↔ y = true) (cz : (0 : Int32) < (cmpValue (FP.dcmp d4 d5) .g) ↔ z = true) (cxr : (cmpValue (FP.dcmp d4 d3) .g) < (0 : Int32) ↔ x = true) :
    MetFree l (⟨"com/example/metasearch/metasearch/EmptyClustersFillPinLaw", "worst", "(ZZZDDD)I"⟩ : MethodName) (head1 (Jvm.Cond.code (⟨"com/example/metasearch/metasearch/EmptyClustersFillPinLaw", "worst", "(ZZZDDD)I"⟩ : MethodName) method_2_code 11 (some .int) :: ws) ({ frames := 0, cells := 0, slots := 0, locals := 0 } : Room)) (fun a U => a = #[(.int 1), (.int 0), (.int 1), (.double d3), (.double d4), (.double d5)] ∧ Z.Warmed39 U.vm ∧ U.heap = h0) (fun _ _ _ _ _ => True) (fun _ U o U' => ∃ v L, o = .returned v ∧ Qw101 Z d3 d4 d5 x y z h0 n0 v U'.heap L ∧ FrameEnd U o U' L ({ frames := 0, cells := 0, slots := 0, locals := 0 } : Room).cells ({ frames := 0, cells := 0, slots := 0, locals := 0 } : Room).slots) := by
  refine MetFree.of_bodySF (plainFor_of_name pn0) hisR ?_
  intro p e s m args below meth c s₁ Bd hml0 hP hK
  obtain ⟨rfl, hZ, hh⟩ := hP
  have hx := Bd.exec
  have hby := Bd.bytes
  have hml : c.maxLocals = 11 := hml0
  have hown : s.vm.findClass "com/example/metasearch/metasearch/EmptyClustersFillPinLaw" = some m.cls := findClass_of_methodNamed Bd.named
  have hnm := (name_of_methodNamed Bd.named Bd.method).1
  have X0 : Stand p l e ({ frames := 0, cells := 0, slots := 0, locals := 0 } : Room) s m #[(.int 1), (.int 0), (.int 1), (.double d3), (.double d4), (.double d5)] below meth c s₁ [] 0 0 := Stand.of_body Bd
  have e0 : s₁.heap = h0 := by rw [← hh, Bd.state]; rfl
  have N0 := Fr.nil n0
  have pre0 : ∀ t, Steps p.tables e below (s₁.setTop (mkF m 0 #[oI 1, oI 0, oI 1, oD d3, oV, oD d4, oV, oD d5, oV, oU, oU] [])) t → Steps p.tables e below (s₁.setTop (entryFrame m #[(.int 1), (.int 0), (.int 1), (.double d3), (.double d4), (.double d5)] 11)) t := fun t k => castTop (efw101 m d3 d4 d5) k
  have pre101 : ∀ t, Steps p.tables e below (s₁.setTop (mkF m 23 #[oI 1, oI 0, oI 1, oD d3, oV, oD d4, oV, oD d5, oV, oU, oU] [(.int (cmpValue (FP.dcmp d3 d5) .g))])) t → Steps p.tables e below (s₁.setTop (mkF m 0 #[oI 1, oI 0, oI 1, oD d3, oV, oD d4, oV, oD d5, oV, oU, oU] [])) t := by
    intro t kt
    show own_S p e below s₁ m 0 #[oI 1, oI 0, oI 1, oD d3, oV, oD d4, oV, oD d5, oV, oU, oU] [] _
    refine XS.iloadN X0.here hx rfl (hb hby d2_0) rfl ?_
    show own_S p e below s₁ m 1 _ [(.int 1)] _
    refine XS.ifNo X0.here hx rfl (hb hby d2_1) rfl ((if0 _ _).trans (feq (by decide : ¬ ((1 : Int32) = (0 : Int32)))).1) ?_
    show own_S p e below s₁ m 4 _ [] _
    refine XS.iloadN X0.here hx rfl (hb hby d2_4) rfl ?_
    show own_S p e below s₁ m 5 _ [(.int 0)] _
    refine XS.ifYes X0.here hx rfl (pc0 := 5) (pc' := 15) rfl (hb hby d2_5) rfl ((if0 _ _).trans (teq (by decide : (0 : Int32) = (0 : Int32))).1) (by decide) (by decide) ?_
    show own_S p e below s₁ m 15 _ [] _
    refine XS.iloadN X0.here hx rfl (hb hby d2_15) rfl ?_
    show own_S p e below s₁ m 16 _ [(.int 1)] _
    refine XS.ifNo X0.here hx rfl (hb hby d2_16) rfl ((if0 _ _).trans (feq (by decide : ¬ ((1 : Int32) = (0 : Int32)))).1) ?_
    show own_S p e below s₁ m 19 _ [] _
    refine XS.dloadN X0.here hx rfl (hb hby d2_19) rfl ?_
    show own_S p e below s₁ m 20 #[oI 1, oI 0, oI 1, oD d3, oV, oD d4, oV, oD d5, oV, oU, oU] [(.double d3)] _
    refine XS.dload X0.here hx rfl (hb hby d2_20) rfl ?_
    show own_S p e below s₁ m 22 _ [(.double d5), (.double d3)] _
    refine XS.dcmpS X0.here hx rfl (v := (cmpValue (FP.dcmp d3 d5) .g)) (hb hby d2_22) rfl rfl ?_
    exact kt
  by_cases qy : (0 : Int32) < (cmpValue (FP.dcmp d3 d5) .g)
  · skip
    obtain ⟨fs, hr, hrun, hended, hW, hsame⟩ := X0.leave (v := some (.int 2)) (fun h => by rw [Bd.returns] at h; cases h)
    refine ⟨_, _, pre0 _ (pre101 _ ?_), hrun, hended, _, _, rfl, ?_, ⟨_, rfl⟩, hW, hsame.mono (by decide) (by decide)⟩
    · show own_S p e below s₁ m 23 #[oI 1, oI 0, oI 1, oD d3, oV, oD d4, oV, oD d5, oV, oU, oU] [(.int (cmpValue (FP.dcmp d3 d5) .g))] _
      refine XS.ifYes X0.here hx rfl (pc0 := 23) (pc' := 30) rfl (hb hby d2_23) rfl ((if0 _ _).trans (tlt (qy : (0 : Int32) < (cmpValue (FP.dcmp d3 d5) .g))).2.2.1) (by decide) (by decide) ?_
      show own_S p e below s₁ m 30 _ [] _
      refine XS.iconst X0.here hx rfl (hb hby d2_30) ?_
      show own_S p e below s₁ m 31 _ [(.int 0)] _
      refine XS.istore X0.here hx rfl (hb hby d2_31) rfl (l' := #[oI 1, oI 0, oI 1, oD d3, oV, oD d4, oV, oD d5, oV, oI 0, oU]) rfl ?_
      show own_S p e below s₁ m 33 #[oI 1, oI 0, oI 1, oD d3, oV, oD d4, oV, oD d5, oV, oI 0, oU] [] _
      refine XS.iloadN X0.here hx rfl (hb hby d2_33) rfl ?_
      show own_S p e below s₁ m 34 _ [(.int 0)] _
      refine XS.ifYes X0.here hx rfl (pc0 := 34) (pc' := 64) rfl (hb hby d2_34) rfl ((if0 _ _).trans (teq (by decide : (0 : Int32) = (0 : Int32))).1) (by decide) (by decide) ?_
      show own_S p e below s₁ m 64 _ [] _
      refine XS.iconst X0.here hx rfl (hb hby d2_64) ?_
      show own_S p e below s₁ m 65 _ [(.int 0)] _
      refine XS.istore X0.here hx rfl (hb hby d2_65) rfl (l' := #[oI 1, oI 0, oI 1, oD d3, oV, oD d4, oV, oD d5, oV, oI 0, oI 0]) rfl ?_
      show own_S p e below s₁ m 67 #[oI 1, oI 0, oI 1, oD d3, oV, oD d4, oV, oD d5, oV, oI 0, oI 0] [] _
      refine XS.iload X0.here hx rfl (hb hby d2_67) rfl ?_
      show own_S p e below s₁ m 69 _ [(.int 0)] _
      refine XS.ifYes X0.here hx rfl (pc0 := 69) (pc' := 76) rfl (hb hby d2_69) rfl ((if0 _ _).trans (teq (by decide : (0 : Int32) = (0 : Int32))).1) (by decide) (by decide) ?_
      show own_S p e below s₁ m 76 _ [] _
      refine XS.iload X0.here hx rfl (hb hby d2_76) rfl ?_
      show own_S p e below s₁ m 78 _ [(.int 0)] _
      refine XS.ifYes X0.here hx rfl (pc0 := 78) (pc' := 85) rfl (hb hby d2_78) rfl ((if0 _ _).trans (teq (by decide : (0 : Int32) = (0 : Int32))).1) (by decide) (by decide) ?_
      show own_S p e below s₁ m 85 _ [] _
      refine XS.iconst X0.here hx rfl (hb hby d2_85) ?_
      show own_S p e below s₁ m 86 _ [(.int 2)] _
      exact retOut X0 hx Bd.returns rfl (Or.inl ⟨rfl, Or.inl rfl, _, rfl⟩) (hb hby d2_86) hr
    · show Qw101 Z d3 d4 d5 x y z h0 n0 _ s₁.heap _
      rw [e0]
      exact ⟨(by rw [cy.mp qy]; rfl), N0, rfl⟩
  · skip
    obtain ⟨fs, hr, hrun, hended, hW, hsame⟩ := X0.leave (v := some (.int 0)) (fun h => by rw [Bd.returns] at h; cases h)
    refine ⟨_, _, pre0 _ (pre101 _ ?_), hrun, hended, _, _, rfl, ?_, ⟨_, rfl⟩, hW, hsame.mono (by decide) (by decide)⟩
    · show own_S p e below s₁ m 23 #[oI 1, oI 0, oI 1, oD d3, oV, oD d4, oV, oD d5, oV, oU, oU] [(.int (cmpValue (FP.dcmp d3 d5) .g))] _
      refine XS.ifNo X0.here hx rfl (hb hby d2_23) rfl ((if0 _ _).trans (flt (qy : ¬ ((0 : Int32) < (cmpValue (FP.dcmp d3 d5) .g)))).2.2.1) ?_
      show own_S p e below s₁ m 26 _ [] _
      refine XS.iconst X0.here hx rfl (hb hby d2_26) ?_
      show own_S p e below s₁ m 27 _ [(.int 1)] _
      refine XS.goto X0.here hx rfl (pc0 := 27) (pc' := 31) rfl (hb hby d2_27) (by decide) (by decide) ?_
      show own_S p e below s₁ m 31 _ [(.int 1)] _
      refine XS.istore X0.here hx rfl (hb hby d2_31) rfl (l' := #[oI 1, oI 0, oI 1, oD d3, oV, oD d4, oV, oD d5, oV, oI 1, oU]) rfl ?_
      show own_S p e below s₁ m 33 #[oI 1, oI 0, oI 1, oD d3, oV, oD d4, oV, oD d5, oV, oI 1, oU] [] _
      refine XS.iloadN X0.here hx rfl (hb hby d2_33) rfl ?_
      show own_S p e below s₁ m 34 _ [(.int 0)] _
      refine XS.ifYes X0.here hx rfl (pc0 := 34) (pc' := 64) rfl (hb hby d2_34) rfl ((if0 _ _).trans (teq (by decide : (0 : Int32) = (0 : Int32))).1) (by decide) (by decide) ?_
      show own_S p e below s₁ m 64 _ [] _
      refine XS.iconst X0.here hx rfl (hb hby d2_64) ?_
      show own_S p e below s₁ m 65 _ [(.int 0)] _
      refine XS.istore X0.here hx rfl (hb hby d2_65) rfl (l' := #[oI 1, oI 0, oI 1, oD d3, oV, oD d4, oV, oD d5, oV, oI 1, oI 0]) rfl ?_
      show own_S p e below s₁ m 67 #[oI 1, oI 0, oI 1, oD d3, oV, oD d4, oV, oD d5, oV, oI 1, oI 0] [] _
      refine XS.iload X0.here hx rfl (hb hby d2_67) rfl ?_
      show own_S p e below s₁ m 69 _ [(.int 1)] _
      refine XS.ifNo X0.here hx rfl (hb hby d2_69) rfl ((if0 _ _).trans (feq (by decide : ¬ ((1 : Int32) = (0 : Int32)))).1) ?_
      show own_S p e below s₁ m 72 _ [] _
      refine XS.iconst X0.here hx rfl (hb hby d2_72) ?_
      show own_S p e below s₁ m 73 _ [(.int 0)] _
      refine XS.goto X0.here hx rfl (pc0 := 73) (pc' := 86) rfl (hb hby d2_73) (by decide) (by decide) ?_
      show own_S p e below s₁ m 86 _ [(.int 0)] _
      exact retOut X0 hx Bd.returns rfl (Or.inl ⟨rfl, Or.inl rfl, _, rfl⟩) (hb hby d2_86) hr
    · show Qw101 Z d3 d4 d5 x y z h0 n0 _ s₁.heap _
      rw [e0]
      exact ⟨(by rw [own_bf cy qy]; rfl), N0, rfl⟩
theorem efw011 (m : MethodId) (d3 : UInt64) (d4 : UInt64) (d5 : UInt64) : entryFrame m #[(.int 0), (.int 1), (.int 1), (.double d3), (.double d4), (.double d5)] 11 = mkF m 0 #[oI 0, oI 1, oI 1, oD d3, oV, oD d4, oV, oD d5, oV, oU, oU] [] := by first | (simp [entryFrame, mkF, argsToLocals, Value.category]; done) | rfl
def Qw011 (Z : State) (d3 : UInt64) (d4 : UInt64) (d5 : UInt64) (x : Bool) (y : Bool) (z : Bool) (h0 : Heap) (n0 : Nat) (v : Option Value) (h : Heap) (L : List Loc) : Prop := v = some (.int (own_h011 z)) ∧ Fr n0 L ∧ (h = h0)
set_option maxRecDepth 65536 in
set_option maxHeartbeats 40000000 in
theorem rmw011 (l : Launch) (Z : State) (a0 : Array Value) (hw : ∀ d ∈ tables_1, d.before a0 Z = true) (ws : List Jvm.Cond) (d3 : UInt64) (d4 : UInt64) (d5 : UInt64) (x : Bool) (y : Bool) (z : Bool) (h0 : Heap) (n0 : Nat) (Z0 : n0 ≤ h0.size) (cx : (0 : Int32) < (cmpValue (FP.dcmp d3 d4) .g) ↔ x = true) (cy : (0 : Int32) < (cmpValue (FP.dcmp d3 d5) .g) ↔ y = true) (cz : (0 : Int32) < (cmpValue (FP.dcmp d4 d5) .g) ↔ z = true) (cxr : (cmpValue (FP.dcmp d4 d3) .g) < (0 : Int32) ↔ x = true) :
    MetFree l (⟨"com/example/metasearch/metasearch/EmptyClustersFillPinLaw", "worst", "(ZZZDDD)I"⟩ : MethodName) (head1 (Jvm.Cond.code (⟨"com/example/metasearch/metasearch/EmptyClustersFillPinLaw", "worst", "(ZZZDDD)I"⟩ : MethodName) method_2_code 11 (some .int) :: ws) ({ frames := 0, cells := 0, slots := 0, locals := 0 } : Room)) (fun a U => a = #[(.int 0), (.int 1), (.int 1), (.double d3), (.double d4), (.double d5)] ∧ Z.Warmed39 U.vm ∧ U.heap = h0) (fun _ _ _ _ _ => True) (fun _ U o U' => ∃ v L, o = .returned v ∧ Qw011 Z d3 d4 d5 x y z h0 n0 v U'.heap L ∧ FrameEnd U o U' L ({ frames := 0, cells := 0, slots := 0, locals := 0 } : Room).cells ({ frames := 0, cells := 0, slots := 0, locals := 0 } : Room).slots) := by
  refine MetFree.of_bodySF (plainFor_of_name pn0) hisR ?_
  intro p e s m args below meth c s₁ Bd hml0 hP hK
  obtain ⟨rfl, hZ, hh⟩ := hP
  have hx := Bd.exec
  have hby := Bd.bytes
  have hml : c.maxLocals = 11 := hml0
  have hown : s.vm.findClass "com/example/metasearch/metasearch/EmptyClustersFillPinLaw" = some m.cls := findClass_of_methodNamed Bd.named
  have hnm := (name_of_methodNamed Bd.named Bd.method).1
  have X0 : Stand p l e ({ frames := 0, cells := 0, slots := 0, locals := 0 } : Room) s m #[(.int 0), (.int 1), (.int 1), (.double d3), (.double d4), (.double d5)] below meth c s₁ [] 0 0 := Stand.of_body Bd
  have e0 : s₁.heap = h0 := by rw [← hh, Bd.state]; rfl
  have N0 := Fr.nil n0
  have pre0 : ∀ t, Steps p.tables e below (s₁.setTop (mkF m 0 #[oI 0, oI 1, oI 1, oD d3, oV, oD d4, oV, oD d5, oV, oU, oU] [])) t → Steps p.tables e below (s₁.setTop (entryFrame m #[(.int 0), (.int 1), (.int 1), (.double d3), (.double d4), (.double d5)] 11)) t := fun t k => castTop (efw011 m d3 d4 d5) k
  have pre101 : ∀ t, Steps p.tables e below (s₁.setTop (mkF m 57 #[oI 0, oI 1, oI 1, oD d3, oV, oD d4, oV, oD d5, oV, oI 0, oU] [(.int (cmpValue (FP.dcmp d4 d5) .g))])) t → Steps p.tables e below (s₁.setTop (mkF m 0 #[oI 0, oI 1, oI 1, oD d3, oV, oD d4, oV, oD d5, oV, oU, oU] [])) t := by
    intro t kt
    show own_S p e below s₁ m 0 #[oI 0, oI 1, oI 1, oD d3, oV, oD d4, oV, oD d5, oV, oU, oU] [] _
    refine XS.iloadN X0.here hx rfl (hb hby d2_0) rfl ?_
    show own_S p e below s₁ m 1 _ [(.int 0)] _
    refine XS.ifYes X0.here hx rfl (pc0 := 1) (pc' := 30) rfl (hb hby d2_1) rfl ((if0 _ _).trans (teq (by decide : (0 : Int32) = (0 : Int32))).1) (by decide) (by decide) ?_
    show own_S p e below s₁ m 30 _ [] _
    refine XS.iconst X0.here hx rfl (hb hby d2_30) ?_
    show own_S p e below s₁ m 31 _ [(.int 0)] _
    refine XS.istore X0.here hx rfl (hb hby d2_31) rfl (l' := #[oI 0, oI 1, oI 1, oD d3, oV, oD d4, oV, oD d5, oV, oI 0, oU]) rfl ?_
    show own_S p e below s₁ m 33 #[oI 0, oI 1, oI 1, oD d3, oV, oD d4, oV, oD d5, oV, oI 0, oU] [] _
    refine XS.iloadN X0.here hx rfl (hb hby d2_33) rfl ?_
    show own_S p e below s₁ m 34 _ [(.int 1)] _
    refine XS.ifNo X0.here hx rfl (hb hby d2_34) rfl ((if0 _ _).trans (feq (by decide : ¬ ((1 : Int32) = (0 : Int32)))).1) ?_
    show own_S p e below s₁ m 37 _ [] _
    refine XS.iloadN X0.here hx rfl (hb hby d2_37) rfl ?_
    show own_S p e below s₁ m 38 _ [(.int 0)] _
    refine XS.ifYes X0.here hx rfl (pc0 := 38) (pc' := 48) rfl (hb hby d2_38) rfl ((if0 _ _).trans (teq (by decide : (0 : Int32) = (0 : Int32))).1) (by decide) (by decide) ?_
    show own_S p e below s₁ m 48 _ [] _
    refine XS.iloadN X0.here hx rfl (hb hby d2_48) rfl ?_
    show own_S p e below s₁ m 49 _ [(.int 1)] _
    refine XS.ifNo X0.here hx rfl (hb hby d2_49) rfl ((if0 _ _).trans (feq (by decide : ¬ ((1 : Int32) = (0 : Int32)))).1) ?_
    show own_S p e below s₁ m 52 _ [] _
    refine XS.dload X0.here hx rfl (hb hby d2_52) rfl ?_
    show own_S p e below s₁ m 54 #[oI 0, oI 1, oI 1, oD d3, oV, oD d4, oV, oD d5, oV, oI 0, oU] [(.double d4)] _
    refine XS.dload X0.here hx rfl (hb hby d2_54) rfl ?_
    show own_S p e below s₁ m 56 _ [(.double d5), (.double d4)] _
    refine XS.dcmpS X0.here hx rfl (v := (cmpValue (FP.dcmp d4 d5) .g)) (hb hby d2_56) rfl rfl ?_
    exact kt
  by_cases qz : (0 : Int32) < (cmpValue (FP.dcmp d4 d5) .g)
  · skip
    obtain ⟨fs, hr, hrun, hended, hW, hsame⟩ := X0.leave (v := some (.int 2)) (fun h => by rw [Bd.returns] at h; cases h)
    refine ⟨_, _, pre0 _ (pre101 _ ?_), hrun, hended, _, _, rfl, ?_, ⟨_, rfl⟩, hW, hsame.mono (by decide) (by decide)⟩
    · show own_S p e below s₁ m 57 #[oI 0, oI 1, oI 1, oD d3, oV, oD d4, oV, oD d5, oV, oI 0, oU] [(.int (cmpValue (FP.dcmp d4 d5) .g))] _
      refine XS.ifYes X0.here hx rfl (pc0 := 57) (pc' := 64) rfl (hb hby d2_57) rfl ((if0 _ _).trans (tlt (qz : (0 : Int32) < (cmpValue (FP.dcmp d4 d5) .g))).2.2.1) (by decide) (by decide) ?_
      show own_S p e below s₁ m 64 _ [] _
      refine XS.iconst X0.here hx rfl (hb hby d2_64) ?_
      show own_S p e below s₁ m 65 _ [(.int 0)] _
      refine XS.istore X0.here hx rfl (hb hby d2_65) rfl (l' := #[oI 0, oI 1, oI 1, oD d3, oV, oD d4, oV, oD d5, oV, oI 0, oI 0]) rfl ?_
      show own_S p e below s₁ m 67 #[oI 0, oI 1, oI 1, oD d3, oV, oD d4, oV, oD d5, oV, oI 0, oI 0] [] _
      refine XS.iload X0.here hx rfl (hb hby d2_67) rfl ?_
      show own_S p e below s₁ m 69 _ [(.int 0)] _
      refine XS.ifYes X0.here hx rfl (pc0 := 69) (pc' := 76) rfl (hb hby d2_69) rfl ((if0 _ _).trans (teq (by decide : (0 : Int32) = (0 : Int32))).1) (by decide) (by decide) ?_
      show own_S p e below s₁ m 76 _ [] _
      refine XS.iload X0.here hx rfl (hb hby d2_76) rfl ?_
      show own_S p e below s₁ m 78 _ [(.int 0)] _
      refine XS.ifYes X0.here hx rfl (pc0 := 78) (pc' := 85) rfl (hb hby d2_78) rfl ((if0 _ _).trans (teq (by decide : (0 : Int32) = (0 : Int32))).1) (by decide) (by decide) ?_
      show own_S p e below s₁ m 85 _ [] _
      refine XS.iconst X0.here hx rfl (hb hby d2_85) ?_
      show own_S p e below s₁ m 86 _ [(.int 2)] _
      exact retOut X0 hx Bd.returns rfl (Or.inl ⟨rfl, Or.inl rfl, _, rfl⟩) (hb hby d2_86) hr
    · show Qw011 Z d3 d4 d5 x y z h0 n0 _ s₁.heap _
      rw [e0]
      exact ⟨(by rw [cz.mp qz]; rfl), N0, rfl⟩
  · skip
    obtain ⟨fs, hr, hrun, hended, hW, hsame⟩ := X0.leave (v := some (.int 1)) (fun h => by rw [Bd.returns] at h; cases h)
    refine ⟨_, _, pre0 _ (pre101 _ ?_), hrun, hended, _, _, rfl, ?_, ⟨_, rfl⟩, hW, hsame.mono (by decide) (by decide)⟩
    · show own_S p e below s₁ m 57 #[oI 0, oI 1, oI 1, oD d3, oV, oD d4, oV, oD d5, oV, oI 0, oU] [(.int (cmpValue (FP.dcmp d4 d5) .g))] _
      refine XS.ifNo X0.here hx rfl (hb hby d2_57) rfl ((if0 _ _).trans (flt (qz : ¬ ((0 : Int32) < (cmpValue (FP.dcmp d4 d5) .g)))).2.2.1) ?_
      show own_S p e below s₁ m 60 _ [] _
      refine XS.iconst X0.here hx rfl (hb hby d2_60) ?_
      show own_S p e below s₁ m 61 _ [(.int 1)] _
      refine XS.goto X0.here hx rfl (pc0 := 61) (pc' := 65) rfl (hb hby d2_61) (by decide) (by decide) ?_
      show own_S p e below s₁ m 65 _ [(.int 1)] _
      refine XS.istore X0.here hx rfl (hb hby d2_65) rfl (l' := #[oI 0, oI 1, oI 1, oD d3, oV, oD d4, oV, oD d5, oV, oI 0, oI 1]) rfl ?_
      show own_S p e below s₁ m 67 #[oI 0, oI 1, oI 1, oD d3, oV, oD d4, oV, oD d5, oV, oI 0, oI 1] [] _
      refine XS.iload X0.here hx rfl (hb hby d2_67) rfl ?_
      show own_S p e below s₁ m 69 _ [(.int 0)] _
      refine XS.ifYes X0.here hx rfl (pc0 := 69) (pc' := 76) rfl (hb hby d2_69) rfl ((if0 _ _).trans (teq (by decide : (0 : Int32) = (0 : Int32))).1) (by decide) (by decide) ?_
      show own_S p e below s₁ m 76 _ [] _
      refine XS.iload X0.here hx rfl (hb hby d2_76) rfl ?_
      show own_S p e below s₁ m 78 _ [(.int 1)] _
      refine XS.ifNo X0.here hx rfl (hb hby d2_78) rfl ((if0 _ _).trans (feq (by decide : ¬ ((1 : Int32) = (0 : Int32)))).1) ?_
      show own_S p e below s₁ m 81 _ [] _
      refine XS.iconst X0.here hx rfl (hb hby d2_81) ?_
      show own_S p e below s₁ m 82 _ [(.int 1)] _
      refine XS.goto X0.here hx rfl (pc0 := 82) (pc' := 86) rfl (hb hby d2_82) (by decide) (by decide) ?_
      show own_S p e below s₁ m 86 _ [(.int 1)] _
      exact retOut X0 hx Bd.returns rfl (Or.inl ⟨rfl, Or.inl rfl, _, rfl⟩) (hb hby d2_86) hr
    · show Qw011 Z d3 d4 d5 x y z h0 n0 _ s₁.heap _
      rw [e0]
      exact ⟨(by rw [own_bf cz qz]; rfl), N0, rfl⟩
theorem d1_0 : decode prog_8_method_2_code 0 = .ok (.iload_n 2, 1) := by decide +kernel
theorem d1_1 : decode prog_8_method_2_code 1 = .ok (.newarray .int, 2) := by decide +kernel
theorem d1_3 : decode prog_8_method_2_code 3 = .ok (.astore_n 3, 1) := by decide +kernel
theorem d1_4 : decode prog_8_method_2_code 4 = .ok (.aload_n 0, 1) := by decide +kernel
theorem d1_5 : decode prog_8_method_2_code 5 = .ok (.astore 4, 2) := by decide +kernel
theorem d1_7 : decode prog_8_method_2_code 7 = .ok (.aload 4, 2) := by decide +kernel
theorem d1_9 : decode prog_8_method_2_code 9 = .ok (.arraylength, 1) := by decide +kernel
theorem d1_10 : decode prog_8_method_2_code 10 = .ok (.istore 5, 2) := by decide +kernel
theorem d1_12 : decode prog_8_method_2_code 12 = .ok (.iconst 0, 1) := by decide +kernel
theorem d1_13 : decode prog_8_method_2_code 13 = .ok (.istore 6, 2) := by decide +kernel
theorem d1_15 : decode prog_8_method_2_code 15 = .ok (.iload 6, 2) := by decide +kernel
theorem d1_17 : decode prog_8_method_2_code 17 = .ok (.iload 5, 2) := by decide +kernel
theorem d1_19 : decode prog_8_method_2_code 19 = .ok (.if_icmp .ge 24, 3) := by decide +kernel
theorem d1_22 : decode prog_8_method_2_code 22 = .ok (.aload 4, 2) := by decide +kernel
theorem d1_24 : decode prog_8_method_2_code 24 = .ok (.iload 6, 2) := by decide +kernel
theorem d1_26 : decode prog_8_method_2_code 26 = .ok (.iaload, 1) := by decide +kernel
theorem d1_27 : decode prog_8_method_2_code 27 = .ok (.istore 7, 2) := by decide +kernel
theorem d1_29 : decode prog_8_method_2_code 29 = .ok (.aload_n 3, 1) := by decide +kernel
theorem d1_30 : decode prog_8_method_2_code 30 = .ok (.iload 7, 2) := by decide +kernel
theorem d1_32 : decode prog_8_method_2_code 32 = .ok (.dup2, 1) := by decide +kernel
theorem d1_33 : decode prog_8_method_2_code 33 = .ok (.iaload, 1) := by decide +kernel
theorem d1_34 : decode prog_8_method_2_code 34 = .ok (.iconst 1, 1) := by decide +kernel
theorem d1_35 : decode prog_8_method_2_code 35 = .ok (.iadd, 1) := by decide +kernel
theorem d1_36 : decode prog_8_method_2_code 36 = .ok (.iastore, 1) := by decide +kernel
theorem d1_37 : decode prog_8_method_2_code 37 = .ok (.iinc 6 1, 3) := by decide +kernel
theorem d1_40 : decode prog_8_method_2_code 40 = .ok (.goto (-25), 3) := by decide +kernel
theorem d1_43 : decode prog_8_method_2_code 43 = .ok (.iconst 0, 1) := by decide +kernel
theorem d1_44 : decode prog_8_method_2_code 44 = .ok (.istore 4, 2) := by decide +kernel
theorem d1_46 : decode prog_8_method_2_code 46 = .ok (.iconst 0, 1) := by decide +kernel
theorem d1_47 : decode prog_8_method_2_code 47 = .ok (.istore 5, 2) := by decide +kernel
theorem d1_49 : decode prog_8_method_2_code 49 = .ok (.iload 5, 2) := by decide +kernel
theorem d1_51 : decode prog_8_method_2_code 51 = .ok (.iload_n 2, 1) := by decide +kernel
theorem d1_52 : decode prog_8_method_2_code 52 = .ok (.if_icmp .ge 96, 3) := by decide +kernel
theorem d1_55 : decode prog_8_method_2_code 55 = .ok (.aload_n 3, 1) := by decide +kernel
theorem d1_56 : decode prog_8_method_2_code 56 = .ok (.iload 5, 2) := by decide +kernel
theorem d1_58 : decode prog_8_method_2_code 58 = .ok (.iaload, 1) := by decide +kernel
theorem d1_59 : decode prog_8_method_2_code 59 = .ok (.ifCond .le 6, 3) := by decide +kernel
theorem d1_62 : decode prog_8_method_2_code 62 = .ok (.goto 80, 3) := by decide +kernel
theorem d1_142 : decode prog_8_method_2_code 142 = .ok (.iinc 5 1, 3) := by decide +kernel
theorem d1_145 : decode prog_8_method_2_code 145 = .ok (.goto (-96), 3) := by decide +kernel
theorem d1_148 : decode prog_8_method_2_code 148 = .ok (.iload 4, 2) := by decide +kernel
theorem d1_150 : decode prog_8_method_2_code 150 = .ok (.ireturn, 1) := by decide +kernel
theorem pn1 : plainName "com/example/metasearch/metasearch/EmptyClusters" = true := by first | (simp [plainName, overriddenIn]; done) | decide +kernel
theorem eff1 (m : MethodId) (r0 : Addr) (r1 : Addr) : entryFrame m #[(.ref r0), (.ref r1), (.int 1)] 8 = mkF m 0 #[oR r0, oR r1, oI 1, oU, oU, oU, oU, oU] [] := by first | (simp [entryFrame, mkF, argsToLocals, Value.category]; done) | rfl
def Qf1 (Z : State) (r0 : Addr) (r1 : Addr) (ka : ClassId) (kb : ClassId) (ma0 : Int32) (ma1 : Int32) (ma2 : Int32) (f0 : UInt64) (f1 : UInt64) (f2 : UInt64) (x : Bool) (y : Bool) (z : Bool) (h0 : Heap) (n0 : Nat) (v : Option Value) (h : Heap) (L : List Loc) : Prop := ∃ o0 : Int32, ∃ o1 : Int32, ∃ o2 : Int32, ∃ orr : Int32, v = some (.int orr) ∧ Fr n0 L ∧ (Keep h0 h [r0]) ∧ (Arv Z h r0 ka .int (3 : Int32) [(.int o0), (.int o1), (.int o2)] (.int 0)) ∧ ((own_F1 x y z ma0 ma1 ma2).m0 = o0 ∧ (own_F1 x y z ma0 ma1 ma2).m1 = o1 ∧ (own_F1 x y z ma0 ma1 ma2).m2 = o2 ∧ (own_F1 x y z ma0 ma1 ma2).r = orr)
set_option maxRecDepth 65536 in
set_option maxHeartbeats 40000000 in
theorem rmf1 (l : Launch) (Z : State) (a0 : Array Value) (hw : ∀ d ∈ tables_1, d.before a0 Z = true) (ws : List Jvm.Cond) (r0 : Addr) (r1 : Addr) (ka : ClassId) (kb : ClassId) (ma0 : Int32) (ma1 : Int32) (ma2 : Int32) (f0 : UInt64) (f1 : UInt64) (f2 : UInt64) (x : Bool) (y : Bool) (z : Bool) (h0 : Heap) (n0 : Nat) (Z0 : n0 ≤ h0.size) (V_r0 : Arv Z h0 r0 ka .int (3 : Int32) [(.int ma0), (.int ma1), (.int ma2)] (.int 0)) (V_r1 : Arv Z h0 r1 kb .double (3 : Int32) [(.double f0), (.double f1), (.double f2)] (.double 0)) (g_r0 : n0 ≤ r0) (ne_r1_r0 : r1 ≠ r0) (ra0 : (ma0 = 0)) (ra1 : (ma1 = 0)) (ra2 : (ma2 = 0)) (cx : (cmpValue (FP.dcmp f1 f0) .g) < (0 : Int32) ↔ x = true) (cy : (cmpValue (FP.dcmp f2 f0) .g) < (0 : Int32) ↔ y = true) (cz : (cmpValue (FP.dcmp f2 f1) .g) < (0 : Int32) ↔ z = true) :
    MetFree l (⟨"com/example/metasearch/metasearch/EmptyClusters", "fill", "([I[DI)Z"⟩ : MethodName) (head1 (Jvm.Cond.code (⟨"com/example/metasearch/metasearch/EmptyClusters", "fill", "([I[DI)Z"⟩ : MethodName) prog_8_method_2_code 8 (some .boolean) :: ws) ({ frames := 0, cells := 1, slots := 1, locals := 0 } : Room)) (fun a U => a = #[(.ref r0), (.ref r1), (.int 1)] ∧ Z.Warmed39 U.vm ∧ U.heap = h0) (fun _ _ _ _ _ => True) (fun _ U o U' => ∃ v L, o = .returned v ∧ Qf1 Z r0 r1 ka kb ma0 ma1 ma2 f0 f1 f2 x y z h0 n0 v U'.heap L ∧ FrameEnd U o U' L ({ frames := 0, cells := 1, slots := 1, locals := 0 } : Room).cells ({ frames := 0, cells := 1, slots := 1, locals := 0 } : Room).slots) := by
  refine MetFree.of_bodySF (plainFor_of_name pn1) hisR ?_
  intro p e s m args below meth c s₁ Bd hml0 hP hK
  obtain ⟨rfl, hZ, hh⟩ := hP
  have hx := Bd.exec
  have hby := Bd.bytes
  have hml : c.maxLocals = 8 := hml0
  have hown : s.vm.findClass "com/example/metasearch/metasearch/EmptyClusters" = some m.cls := findClass_of_methodNamed Bd.named
  have hnm := (name_of_methodNamed Bd.named Bd.method).1
  have X0 : Stand p l e ({ frames := 0, cells := 1, slots := 1, locals := 0 } : Room) s m #[(.ref r0), (.ref r1), (.int 1)] below meth c s₁ [] 0 0 := Stand.of_body Bd
  have e0 : s₁.heap = h0 := by rw [← hh, Bd.state]; rfl
  have N0 := Fr.nil n0
  have pre0 : ∀ t, Steps p.tables e below (s₁.setTop (mkF m 0 #[oR r0, oR r1, oI 1, oU, oU, oU, oU, oU] [])) t → Steps p.tables e below (s₁.setTop (entryFrame m #[(.ref r0), (.ref r1), (.int 1)] 8)) t := fun t k => castTop (eff1 m r0 r1) k
  obtain ⟨T101, h101, k101, X101, e101, E101, A101, st101⟩ := newP X0 hx hZ (own_w hw 1 rfl) e0 (g := (mkF m 1 #[oR r0, oR r1, oI 1, oU, oU, oU, oU, oU] [(.int 1)])) rfl (hb hby d1_1) rfl (by decide) (cap := 1) (by decide) (by decide) (by decide) (by decide)
  obtain ⟨b101, g101⟩ : ∃ z, z = h0.size := ⟨_, rfl⟩
  rw [← g101] at A101 st101
  have g_b101 : n0 ≤ b101 := Nat.le_trans Z0 (Nat.le_of_eq g101.symm)
  have sz_b101 : h0.size ≤ b101 := Nat.le_trans (Keep.refl h0 [r0]).1 (Nat.le_of_eq g101.symm)
  have ZZ102 : n0 ≤ h101.size := Nat.le_trans Z0 E101.1
  have KK103 : Keep h0 h101 [r0] := (Keep.refl h0 [r0]).ext E101
  have V_b101 : Arv Z h101 b101 k101 .int (1 : Int32) [(.int 0)] (.int 0) := (Arv.new A101 (by decide)).pad (pad_rep [] (.int 0) 1)
  obtain ⟨cl104, Ar104, qk104, Sz104, Nz104, Hh104, Gg104⟩ := id (V_r0.ext E101)
  obtain ⟨cl105, Ar105, qk105, Sz105, Nz105, Hh105, Gg105⟩ := id (V_r0.ext E101)
  have hin106 : ¬ ((0 : Int32) < 0 ∨ cl105.slots.size ≤ ((0 : Int32)).toNatClampNeg) := inb_of Sz105 ⟨by decide, by decide⟩
  have hat106 : cl105.slots[((0 : Int32)).toNatClampNeg]? = some (.int ma0) := Has.at Hh105 hin106 rfl
  obtain ⟨cl107, Ar107, qk107, Sz107, Nz107, Hh107, Gg107⟩ := id V_b101
  have hin108 : ¬ (ma0 < 0 ∨ cl107.slots.size ≤ (ma0).toNatClampNeg) := inb_of Sz107 (own_b1 ra0)
  have hat108 : cl107.slots[(ma0).toNatClampNeg]? = some (.int (own_at (0 : Int32) (0 : Int32) (0 : Int32) ma0)) := Has.at Hh107 hin108 (own_g1 ra0)
  obtain ⟨cc00, hcc00⟩ : ∃ zz, zz = own_p 0 ma0 ((own_at (0 : Int32) (0 : Int32) (0 : Int32) ma0) + (1 : Int32)) (0 : Int32) := ⟨_, rfl⟩
  obtain ⟨cc01, hcc01⟩ : ∃ zz, zz = own_p 1 ma0 ((own_at (0 : Int32) (0 : Int32) (0 : Int32) ma0) + (1 : Int32)) (0 : Int32) := ⟨_, rfl⟩
  obtain ⟨cc02, hcc02⟩ : ∃ zz, zz = own_p 2 ma0 ((own_at (0 : Int32) (0 : Int32) (0 : Int32) ma0) + (1 : Int32)) (0 : Int32) := ⟨_, rfl⟩
  have hin109 : ¬ (ma0 < 0 ∨ cl107.slots.size ≤ (ma0).toNatClampNeg) := inb_of Sz107 (own_b1 ra0)
  obtain ⟨T110, h110, X110, e110, W110, st110⟩ := stI X101 hx hZ e101 Ar107 (j := ma0) hin109 (g := (mkF m 36 #[oR r0, oR r1, oI 1, oR b101, oR r0, oI 3, oI 0, oI ma0] [(.int ((own_at (0 : Int32) (0 : Int32) (0 : Int32) ma0) + (1 : Int32))), (.int ma0), (.ref b101)])) rfl rfl (hb hby d1_36)
  have Va110 := Arv.set Ar107 qk107 Sz107 Nz107 Hh107 Gg107 rfl W110 (ma0).toNatClampNeg rfl (own_l1 ra0)
  have Vs110 : Arv Z h110 b101 k101 .int (1 : Int32) [(.int cc00)] (.int 0) := by rw [← (by rw [hcc00]; exact own_s1 ra0 : ([(.int 0)] : List Value).set (ma0).toNatClampNeg (.int ((own_at (0 : Int32) (0 : Int32) (0 : Int32) ma0) + (1 : Int32))) = [(.int cc00)])]; exact Va110
  have N110 := Fr.snoc X110 N0 g_b101
  have ZZ111 : n0 ≤ h110.size := Nat.le_trans ZZ102 (Nat.le_of_eq W110.size.symm)
  have KK112 : Keep h0 h110 [r0] := KK103.wr W110 (Or.inr sz_b101)
  have Fc113 := ((V_r0.ext E101).other W110 (Nat.ne_of_lt (Nat.lt_of_lt_of_le V_r0.lt (Nat.le_of_eq g101.symm))))
  obtain ⟨cl114, Ar114, qk114, Sz114, Nz114, Hh114, Gg114⟩ := id Fc113
  have hin115 : ¬ ((1 : Int32) < 0 ∨ cl114.slots.size ≤ ((1 : Int32)).toNatClampNeg) := inb_of Sz114 ⟨by decide, by decide⟩
  have hat115 : cl114.slots[((1 : Int32)).toNatClampNeg]? = some (.int ma1) := Has.at Hh114 hin115 rfl
  obtain ⟨cl116, Ar116, qk116, Sz116, Nz116, Hh116, Gg116⟩ := id Vs110
  have hin117 : ¬ (ma1 < 0 ∨ cl116.slots.size ≤ (ma1).toNatClampNeg) := inb_of Sz116 (own_b1 ra1)
  have hat117 : cl116.slots[(ma1).toNatClampNeg]? = some (.int (own_at cc00 cc01 cc02 ma1)) := Has.at Hh116 hin117 (own_g1 ra1)
  obtain ⟨cc10, hcc10⟩ : ∃ zz, zz = own_p 0 ma1 ((own_at cc00 cc01 cc02 ma1) + (1 : Int32)) cc00 := ⟨_, rfl⟩
  obtain ⟨cc11, hcc11⟩ : ∃ zz, zz = own_p 1 ma1 ((own_at cc00 cc01 cc02 ma1) + (1 : Int32)) cc01 := ⟨_, rfl⟩
  obtain ⟨cc12, hcc12⟩ : ∃ zz, zz = own_p 2 ma1 ((own_at cc00 cc01 cc02 ma1) + (1 : Int32)) cc02 := ⟨_, rfl⟩
  have hin118 : ¬ (ma1 < 0 ∨ cl116.slots.size ≤ (ma1).toNatClampNeg) := inb_of Sz116 (own_b1 ra1)
  obtain ⟨T119, h119, X119, e119, W119, st119⟩ := stI X110 hx hZ e110 Ar116 (j := ma1) hin118 (g := (mkF m 36 #[oR r0, oR r1, oI 1, oR b101, oR r0, oI 3, oI 1, oI ma1] [(.int ((own_at cc00 cc01 cc02 ma1) + (1 : Int32))), (.int ma1), (.ref b101)])) rfl rfl (hb hby d1_36)
  have Va119 := Arv.set Ar116 qk116 Sz116 Nz116 Hh116 Gg116 rfl W119 (ma1).toNatClampNeg rfl (own_l1 ra1)
  have Vs119 : Arv Z h119 b101 k101 .int (1 : Int32) [(.int cc10)] (.int 0) := by rw [← (by rw [hcc10]; exact own_s1 ra1 : ([(.int cc00)] : List Value).set (ma1).toNatClampNeg (.int ((own_at cc00 cc01 cc02 ma1) + (1 : Int32))) = [(.int cc10)])]; exact Va119
  have N119 := Fr.snoc X119 N110 g_b101
  have ZZ120 : n0 ≤ h119.size := Nat.le_trans ZZ111 (Nat.le_of_eq W119.size.symm)
  have KK121 : Keep h0 h119 [r0] := KK112.wr W119 (Or.inr sz_b101)
  have Fc122 := (Fc113.other W119 (Nat.ne_of_lt (Nat.lt_of_lt_of_le V_r0.lt (Nat.le_of_eq g101.symm))))
  obtain ⟨cl123, Ar123, qk123, Sz123, Nz123, Hh123, Gg123⟩ := id Fc122
  have hin124 : ¬ ((2 : Int32) < 0 ∨ cl123.slots.size ≤ ((2 : Int32)).toNatClampNeg) := inb_of Sz123 ⟨by decide, by decide⟩
  have hat124 : cl123.slots[((2 : Int32)).toNatClampNeg]? = some (.int ma2) := Has.at Hh123 hin124 rfl
  obtain ⟨cl125, Ar125, qk125, Sz125, Nz125, Hh125, Gg125⟩ := id Vs119
  have hin126 : ¬ (ma2 < 0 ∨ cl125.slots.size ≤ (ma2).toNatClampNeg) := inb_of Sz125 (own_b1 ra2)
  have hat126 : cl125.slots[(ma2).toNatClampNeg]? = some (.int (own_at cc10 cc11 cc12 ma2)) := Has.at Hh125 hin126 (own_g1 ra2)
  obtain ⟨cc20, hcc20⟩ : ∃ zz, zz = own_p 0 ma2 ((own_at cc10 cc11 cc12 ma2) + (1 : Int32)) cc10 := ⟨_, rfl⟩
  obtain ⟨cc21, hcc21⟩ : ∃ zz, zz = own_p 1 ma2 ((own_at cc10 cc11 cc12 ma2) + (1 : Int32)) cc11 := ⟨_, rfl⟩
  obtain ⟨cc22, hcc22⟩ : ∃ zz, zz = own_p 2 ma2 ((own_at cc10 cc11 cc12 ma2) + (1 : Int32)) cc12 := ⟨_, rfl⟩
  have hin127 : ¬ (ma2 < 0 ∨ cl125.slots.size ≤ (ma2).toNatClampNeg) := inb_of Sz125 (own_b1 ra2)
  obtain ⟨T128, h128, X128, e128, W128, st128⟩ := stI X119 hx hZ e119 Ar125 (j := ma2) hin127 (g := (mkF m 36 #[oR r0, oR r1, oI 1, oR b101, oR r0, oI 3, oI 2, oI ma2] [(.int ((own_at cc10 cc11 cc12 ma2) + (1 : Int32))), (.int ma2), (.ref b101)])) rfl rfl (hb hby d1_36)
  have Va128 := Arv.set Ar125 qk125 Sz125 Nz125 Hh125 Gg125 rfl W128 (ma2).toNatClampNeg rfl (own_l1 ra2)
  have Vs128 : Arv Z h128 b101 k101 .int (1 : Int32) [(.int cc20)] (.int 0) := by rw [← (by rw [hcc20]; exact own_s1 ra2 : ([(.int cc10)] : List Value).set (ma2).toNatClampNeg (.int ((own_at cc10 cc11 cc12 ma2) + (1 : Int32))) = [(.int cc20)])]; exact Va128
  have N128 := Fr.snoc X128 N119 g_b101
  have ZZ129 : n0 ≤ h128.size := Nat.le_trans ZZ120 (Nat.le_of_eq W128.size.symm)
  have KK130 : Keep h0 h128 [r0] := KK121.wr W128 (Or.inr sz_b101)
  have H0 : own_F0 x y z ma0 ma1 ma2 = (⟨cc20, cc21, cc22, ma0, ma1, ma2, 0⟩ : own_St) := by rw [hcc20, hcc21, hcc22, hcc10, hcc11, hcc12, hcc00, hcc01, hcc02]; rfl
  obtain ⟨cl131, Ar131, qk131, Sz131, Nz131, Hh131, Gg131⟩ := id Vs128
  have hin132 : ¬ ((0 : Int32) < 0 ∨ cl131.slots.size ≤ ((0 : Int32)).toNatClampNeg) := inb_of Sz131 ⟨by decide, by decide⟩
  have hat132 : cl131.slots[((0 : Int32)).toNatClampNeg]? = some (.int cc20) := Has.at Hh131 hin132 rfl
  have hN : 0 < own_at cc20 cc21 cc22 0 := by
    have q := own_N1 x y z ra0 ra1 ra2
    rw [H0] at q
    exact q
  have he0 : (0 : Int32) < cc20 := hN
  have H1 : own_F1 x y z ma0 ma1 ma2 = (⟨cc20, cc21, cc22, ma0, ma1, ma2, (0 : Int32)⟩ : own_St) := own_F1p H0 he0
  obtain ⟨fs, hr, hrun, hended, hW, hsame⟩ := X128.leave (v := some (.int 0)) (fun h => by rw [Bd.returns] at h; cases h)
  refine ⟨_, _, pre0 _ ?_, hrun, hended, _, _, rfl, ?_, ⟨_, rfl⟩, hW, hsame.mono (by decide) (by decide)⟩
  · show own_S p e below s₁ m 0 #[oR r0, oR r1, oI 1, oU, oU, oU, oU, oU] [] _
    refine XS.iloadN X0.here hx rfl (hb hby d1_0) rfl ?_
    show own_S p e below s₁ m 1 _ [(.int 1)] _
    refine st101 _ ?_
    show own_S p e below T101 m 3 _ [(.ref b101)] _
    refine XS.astoreN X101.here hx rfl (hb hby d1_3) rfl rfl (l' := #[oR r0, oR r1, oI 1, oR b101, oU, oU, oU, oU]) rfl ?_
    show own_S p e below T101 m 4 #[oR r0, oR r1, oI 1, oR b101, oU, oU, oU, oU] [] _
    refine XS.aloadN X101.here hx rfl (hb hby d1_4) rfl rfl ?_
    show own_S p e below T101 m 5 _ [(.ref r0)] _
    refine XS.astore X101.here hx rfl (hb hby d1_5) rfl rfl (l' := #[oR r0, oR r1, oI 1, oR b101, oR r0, oU, oU, oU]) rfl ?_
    show own_S p e below T101 m 7 #[oR r0, oR r1, oI 1, oR b101, oR r0, oU, oU, oU] [] _
    refine XS.aload X101.here hx rfl (hb hby d1_7) rfl rfl ?_
    show own_S p e below T101 m 9 _ [(.ref r0)] _
    refine X101.arraylength hx (by rw [e101]; exact Ar104.1) (State.isArrayOf_alike hZ.alike Ar104.2.1) (g := (mkF m 9 #[oR r0, oR r1, oI 1, oR b101, oR r0, oU, oU, oU] [(.ref r0)])) rfl rfl (hb hby d1_9) _ ?_
    rw [len_of Sz104 Nz104]
    show own_S p e below T101 m 10 _ [(.int 3)] _
    refine XS.istore X101.here hx rfl (hb hby d1_10) rfl (l' := #[oR r0, oR r1, oI 1, oR b101, oR r0, oI 3, oU, oU]) rfl ?_
    show own_S p e below T101 m 12 #[oR r0, oR r1, oI 1, oR b101, oR r0, oI 3, oU, oU] [] _
    refine XS.iconst X101.here hx rfl (hb hby d1_12) ?_
    show own_S p e below T101 m 13 _ [(.int 0)] _
    refine XS.istore X101.here hx rfl (hb hby d1_13) rfl (l' := #[oR r0, oR r1, oI 1, oR b101, oR r0, oI 3, oI 0, oU]) rfl ?_
    show own_S p e below T101 m 15 #[oR r0, oR r1, oI 1, oR b101, oR r0, oI 3, oI 0, oU] [] _
    refine XS.iload X101.here hx rfl (hb hby d1_15) rfl ?_
    show own_S p e below T101 m 17 _ [(.int 0)] _
    refine XS.iload X101.here hx rfl (hb hby d1_17) rfl ?_
    show own_S p e below T101 m 19 _ [(.int 3), (.int 0)] _
    refine XS.icmpNo X101.here hx rfl (hb hby d1_19) rfl (tlt (by decide : (0 : Int32) < (3 : Int32))).2.1 ?_
    show own_S p e below T101 m 22 _ [] _
    refine XS.aload X101.here hx rfl (hb hby d1_22) rfl rfl ?_
    show own_S p e below T101 m 24 _ [(.ref r0)] _
    refine XS.iload X101.here hx rfl (hb hby d1_24) rfl ?_
    show own_S p e below T101 m 26 _ [(.int 0), (.ref r0)] _
    refine X101.iaload hx (j := (0 : Int32)) (v := (.int ma0)) (by rw [e101]; exact Ar105.1) (State.isArrayOf_alike hZ.alike Ar105.2.1) Ar105.2.2 hin106 hat106 (g := (mkF m 26 #[oR r0, oR r1, oI 1, oR b101, oR r0, oI 3, oI 0, oU] [(.int 0), (.ref r0)])) rfl rfl (hb hby d1_26) _ ?_
    show own_S p e below T101 m 27 _ [(.int ma0)] _
    refine XS.istore X101.here hx rfl (hb hby d1_27) rfl (l' := #[oR r0, oR r1, oI 1, oR b101, oR r0, oI 3, oI 0, oI ma0]) rfl ?_
    show own_S p e below T101 m 29 #[oR r0, oR r1, oI 1, oR b101, oR r0, oI 3, oI 0, oI ma0] [] _
    refine XS.aloadN X101.here hx rfl (hb hby d1_29) rfl rfl ?_
    show own_S p e below T101 m 30 _ [(.ref b101)] _
    refine XS.iload X101.here hx rfl (hb hby d1_30) rfl ?_
    show own_S p e below T101 m 32 _ [(.int ma0), (.ref b101)] _
    jvm_step X101.here [X101.here.top, hx, (hb hby d1_32), Value.category]
    show own_S p e below T101 m 33 #[oR r0, oR r1, oI 1, oR b101, oR r0, oI 3, oI 0, oI ma0] [(.int ma0), (.ref b101), (.int ma0), (.ref b101)] _
    refine X101.iaload hx (j := ma0) (v := (.int (own_at (0 : Int32) (0 : Int32) (0 : Int32) ma0))) (by rw [e101]; exact Ar107.1) (State.isArrayOf_alike hZ.alike Ar107.2.1) Ar107.2.2 hin108 hat108 (g := (mkF m 33 #[oR r0, oR r1, oI 1, oR b101, oR r0, oI 3, oI 0, oI ma0] [(.int ma0), (.ref b101), (.int ma0), (.ref b101)])) rfl rfl (hb hby d1_33) _ ?_
    show own_S p e below T101 m 34 _ [(.int (own_at (0 : Int32) (0 : Int32) (0 : Int32) ma0)), (.int ma0), (.ref b101)] _
    refine XS.iconst X101.here hx rfl (hb hby d1_34) ?_
    show own_S p e below T101 m 35 _ [(.int 1), (.int (own_at (0 : Int32) (0 : Int32) (0 : Int32) ma0)), (.int ma0), (.ref b101)] _
    refine XS.iadd X101.here hx rfl (hb hby d1_35) rfl ?_
    show own_S p e below T101 m 36 _ [(.int ((own_at (0 : Int32) (0 : Int32) (0 : Int32) ma0) + (1 : Int32))), (.int ma0), (.ref b101)] _
    refine st110 _ ?_
    show own_S p e below T110 m 37 _ [] _
    refine XS.iinc X110.here hx rfl (hb hby d1_37) rfl (l' := #[oR r0, oR r1, oI 1, oR b101, oR r0, oI 3, oI 1, oI ma0]) rfl ?_
    show own_S p e below T110 m 40 #[oR r0, oR r1, oI 1, oR b101, oR r0, oI 3, oI 1, oI ma0] [] _
    refine XS.goto X110.here hx rfl (pc0 := 40) (pc' := 15) rfl (hb hby d1_40) (by decide) (by decide) ?_
    show own_S p e below T110 m 15 _ [] _
    refine XS.iload X110.here hx rfl (hb hby d1_15) rfl ?_
    show own_S p e below T110 m 17 _ [(.int 1)] _
    refine XS.iload X110.here hx rfl (hb hby d1_17) rfl ?_
    show own_S p e below T110 m 19 _ [(.int 3), (.int 1)] _
    refine XS.icmpNo X110.here hx rfl (hb hby d1_19) rfl (tlt (by decide : (1 : Int32) < (3 : Int32))).2.1 ?_
    show own_S p e below T110 m 22 _ [] _
    refine XS.aload X110.here hx rfl (hb hby d1_22) rfl rfl ?_
    show own_S p e below T110 m 24 _ [(.ref r0)] _
    refine XS.iload X110.here hx rfl (hb hby d1_24) rfl ?_
    show own_S p e below T110 m 26 _ [(.int 1), (.ref r0)] _
    refine X110.iaload hx (j := (1 : Int32)) (v := (.int ma1)) (by rw [e110]; exact Ar114.1) (State.isArrayOf_alike hZ.alike Ar114.2.1) Ar114.2.2 hin115 hat115 (g := (mkF m 26 #[oR r0, oR r1, oI 1, oR b101, oR r0, oI 3, oI 1, oI ma0] [(.int 1), (.ref r0)])) rfl rfl (hb hby d1_26) _ ?_
    show own_S p e below T110 m 27 #[oR r0, oR r1, oI 1, oR b101, oR r0, oI 3, oI 1, oI ma0] [(.int ma1)] _
    refine XS.istore X110.here hx rfl (hb hby d1_27) rfl (l' := #[oR r0, oR r1, oI 1, oR b101, oR r0, oI 3, oI 1, oI ma1]) rfl ?_
    show own_S p e below T110 m 29 #[oR r0, oR r1, oI 1, oR b101, oR r0, oI 3, oI 1, oI ma1] [] _
    refine XS.aloadN X110.here hx rfl (hb hby d1_29) rfl rfl ?_
    show own_S p e below T110 m 30 _ [(.ref b101)] _
    refine XS.iload X110.here hx rfl (hb hby d1_30) rfl ?_
    show own_S p e below T110 m 32 _ [(.int ma1), (.ref b101)] _
    jvm_step X110.here [X110.here.top, hx, (hb hby d1_32), Value.category]
    show own_S p e below T110 m 33 #[oR r0, oR r1, oI 1, oR b101, oR r0, oI 3, oI 1, oI ma1] [(.int ma1), (.ref b101), (.int ma1), (.ref b101)] _
    refine X110.iaload hx (j := ma1) (v := (.int (own_at cc00 cc01 cc02 ma1))) (by rw [e110]; exact Ar116.1) (State.isArrayOf_alike hZ.alike Ar116.2.1) Ar116.2.2 hin117 hat117 (g := (mkF m 33 #[oR r0, oR r1, oI 1, oR b101, oR r0, oI 3, oI 1, oI ma1] [(.int ma1), (.ref b101), (.int ma1), (.ref b101)])) rfl rfl (hb hby d1_33) _ ?_
    show own_S p e below T110 m 34 _ [(.int (own_at cc00 cc01 cc02 ma1)), (.int ma1), (.ref b101)] _
    refine XS.iconst X110.here hx rfl (hb hby d1_34) ?_
    show own_S p e below T110 m 35 _ [(.int 1), (.int (own_at cc00 cc01 cc02 ma1)), (.int ma1), (.ref b101)] _
    refine XS.iadd X110.here hx rfl (hb hby d1_35) rfl ?_
    show own_S p e below T110 m 36 _ [(.int ((own_at cc00 cc01 cc02 ma1) + (1 : Int32))), (.int ma1), (.ref b101)] _
    refine st119 _ ?_
    show own_S p e below T119 m 37 _ [] _
    refine XS.iinc X119.here hx rfl (hb hby d1_37) rfl (l' := #[oR r0, oR r1, oI 1, oR b101, oR r0, oI 3, oI 2, oI ma1]) rfl ?_
    show own_S p e below T119 m 40 #[oR r0, oR r1, oI 1, oR b101, oR r0, oI 3, oI 2, oI ma1] [] _
    refine XS.goto X119.here hx rfl (pc0 := 40) (pc' := 15) rfl (hb hby d1_40) (by decide) (by decide) ?_
    show own_S p e below T119 m 15 _ [] _
    refine XS.iload X119.here hx rfl (hb hby d1_15) rfl ?_
    show own_S p e below T119 m 17 _ [(.int 2)] _
    refine XS.iload X119.here hx rfl (hb hby d1_17) rfl ?_
    show own_S p e below T119 m 19 _ [(.int 3), (.int 2)] _
    refine XS.icmpNo X119.here hx rfl (hb hby d1_19) rfl (tlt (by decide : (2 : Int32) < (3 : Int32))).2.1 ?_
    show own_S p e below T119 m 22 _ [] _
    refine XS.aload X119.here hx rfl (hb hby d1_22) rfl rfl ?_
    show own_S p e below T119 m 24 _ [(.ref r0)] _
    refine XS.iload X119.here hx rfl (hb hby d1_24) rfl ?_
    show own_S p e below T119 m 26 _ [(.int 2), (.ref r0)] _
    refine X119.iaload hx (j := (2 : Int32)) (v := (.int ma2)) (by rw [e119]; exact Ar123.1) (State.isArrayOf_alike hZ.alike Ar123.2.1) Ar123.2.2 hin124 hat124 (g := (mkF m 26 #[oR r0, oR r1, oI 1, oR b101, oR r0, oI 3, oI 2, oI ma1] [(.int 2), (.ref r0)])) rfl rfl (hb hby d1_26) _ ?_
    show own_S p e below T119 m 27 #[oR r0, oR r1, oI 1, oR b101, oR r0, oI 3, oI 2, oI ma1] [(.int ma2)] _
    refine XS.istore X119.here hx rfl (hb hby d1_27) rfl (l' := #[oR r0, oR r1, oI 1, oR b101, oR r0, oI 3, oI 2, oI ma2]) rfl ?_
    show own_S p e below T119 m 29 #[oR r0, oR r1, oI 1, oR b101, oR r0, oI 3, oI 2, oI ma2] [] _
    refine XS.aloadN X119.here hx rfl (hb hby d1_29) rfl rfl ?_
    show own_S p e below T119 m 30 _ [(.ref b101)] _
    refine XS.iload X119.here hx rfl (hb hby d1_30) rfl ?_
    show own_S p e below T119 m 32 _ [(.int ma2), (.ref b101)] _
    jvm_step X119.here [X119.here.top, hx, (hb hby d1_32), Value.category]
    show own_S p e below T119 m 33 #[oR r0, oR r1, oI 1, oR b101, oR r0, oI 3, oI 2, oI ma2] [(.int ma2), (.ref b101), (.int ma2), (.ref b101)] _
    refine X119.iaload hx (j := ma2) (v := (.int (own_at cc10 cc11 cc12 ma2))) (by rw [e119]; exact Ar125.1) (State.isArrayOf_alike hZ.alike Ar125.2.1) Ar125.2.2 hin126 hat126 (g := (mkF m 33 #[oR r0, oR r1, oI 1, oR b101, oR r0, oI 3, oI 2, oI ma2] [(.int ma2), (.ref b101), (.int ma2), (.ref b101)])) rfl rfl (hb hby d1_33) _ ?_
    show own_S p e below T119 m 34 _ [(.int (own_at cc10 cc11 cc12 ma2)), (.int ma2), (.ref b101)] _
    refine XS.iconst X119.here hx rfl (hb hby d1_34) ?_
    show own_S p e below T119 m 35 _ [(.int 1), (.int (own_at cc10 cc11 cc12 ma2)), (.int ma2), (.ref b101)] _
    refine XS.iadd X119.here hx rfl (hb hby d1_35) rfl ?_
    show own_S p e below T119 m 36 _ [(.int ((own_at cc10 cc11 cc12 ma2) + (1 : Int32))), (.int ma2), (.ref b101)] _
    refine st128 _ ?_
    show own_S p e below T128 m 37 _ [] _
    refine XS.iinc X128.here hx rfl (hb hby d1_37) rfl (l' := #[oR r0, oR r1, oI 1, oR b101, oR r0, oI 3, oI 3, oI ma2]) rfl ?_
    show own_S p e below T128 m 40 #[oR r0, oR r1, oI 1, oR b101, oR r0, oI 3, oI 3, oI ma2] [] _
    refine XS.goto X128.here hx rfl (pc0 := 40) (pc' := 15) rfl (hb hby d1_40) (by decide) (by decide) ?_
    show own_S p e below T128 m 15 _ [] _
    refine XS.iload X128.here hx rfl (hb hby d1_15) rfl ?_
    show own_S p e below T128 m 17 _ [(.int 3)] _
    refine XS.iload X128.here hx rfl (hb hby d1_17) rfl ?_
    show own_S p e below T128 m 19 _ [(.int 3), (.int 3)] _
    refine XS.icmpYes X128.here hx rfl (pc0 := 19) (pc' := 43) rfl (hb hby d1_19) rfl (flt (by decide : ¬ ((3 : Int32) < (3 : Int32)))).2.1 (by decide) (by decide) ?_
    show own_S p e below T128 m 43 _ [] _
    refine XS.iconst X128.here hx rfl (hb hby d1_43) ?_
    show own_S p e below T128 m 44 _ [(.int 0)] _
    refine XS.istore X128.here hx rfl (hb hby d1_44) rfl (l' := #[oR r0, oR r1, oI 1, oR b101, oI 0, oI 3, oI 3, oI ma2]) rfl ?_
    show own_S p e below T128 m 46 #[oR r0, oR r1, oI 1, oR b101, oI 0, oI 3, oI 3, oI ma2] [] _
    refine XS.iconst X128.here hx rfl (hb hby d1_46) ?_
    show own_S p e below T128 m 47 _ [(.int 0)] _
    refine XS.istore X128.here hx rfl (hb hby d1_47) rfl (l' := #[oR r0, oR r1, oI 1, oR b101, oI 0, oI 0, oI 3, oI ma2]) rfl ?_
    show own_S p e below T128 m 49 #[oR r0, oR r1, oI 1, oR b101, oI 0, oI 0, oI 3, oI ma2] [] _
    refine XS.iload X128.here hx rfl (hb hby d1_49) rfl ?_
    show own_S p e below T128 m 51 _ [(.int 0)] _
    refine XS.iloadN X128.here hx rfl (hb hby d1_51) rfl ?_
    show own_S p e below T128 m 52 _ [(.int 1), (.int 0)] _
    refine XS.icmpNo X128.here hx rfl (hb hby d1_52) rfl (tlt (by decide : (0 : Int32) < (1 : Int32))).2.1 ?_
    show own_S p e below T128 m 55 _ [] _
    refine XS.aloadN X128.here hx rfl (hb hby d1_55) rfl rfl ?_
    show own_S p e below T128 m 56 _ [(.ref b101)] _
    refine XS.iload X128.here hx rfl (hb hby d1_56) rfl ?_
    show own_S p e below T128 m 58 _ [(.int 0), (.ref b101)] _
    refine X128.iaload hx (j := (0 : Int32)) (v := (.int cc20)) (by rw [e128]; exact Ar131.1) (State.isArrayOf_alike hZ.alike Ar131.2.1) Ar131.2.2 hin132 hat132 (g := (mkF m 58 #[oR r0, oR r1, oI 1, oR b101, oI 0, oI 0, oI 3, oI ma2] [(.int 0), (.ref b101)])) rfl rfl (hb hby d1_58) _ ?_
    show own_S p e below T128 m 59 _ [(.int cc20)] _
    refine XS.ifNo X128.here hx rfl (hb hby d1_59) rfl ((if0 _ _).trans (tlt (he0 : (0 : Int32) < cc20)).2.2.2) ?_
    show own_S p e below T128 m 62 #[oR r0, oR r1, oI 1, oR b101, oI 0, oI 0, oI 3, oI ma2] [] _
    refine XS.goto X128.here hx rfl (pc0 := 62) (pc' := 142) rfl (hb hby d1_62) (by decide) (by decide) ?_
    show own_S p e below T128 m 142 _ [] _
    refine XS.iinc X128.here hx rfl (hb hby d1_142) rfl (l' := #[oR r0, oR r1, oI 1, oR b101, oI 0, oI 1, oI 3, oI ma2]) rfl ?_
    show own_S p e below T128 m 145 #[oR r0, oR r1, oI 1, oR b101, oI 0, oI 1, oI 3, oI ma2] [] _
    refine XS.goto X128.here hx rfl (pc0 := 145) (pc' := 49) rfl (hb hby d1_145) (by decide) (by decide) ?_
    show own_S p e below T128 m 49 _ [] _
    refine XS.iload X128.here hx rfl (hb hby d1_49) rfl ?_
    show own_S p e below T128 m 51 _ [(.int 1)] _
    refine XS.iloadN X128.here hx rfl (hb hby d1_51) rfl ?_
    show own_S p e below T128 m 52 _ [(.int 1), (.int 1)] _
    refine XS.icmpYes X128.here hx rfl (pc0 := 52) (pc' := 148) rfl (hb hby d1_52) rfl (flt (by decide : ¬ ((1 : Int32) < (1 : Int32)))).2.1 (by decide) (by decide) ?_
    show own_S p e below T128 m 148 _ [] _
    refine XS.iload X128.here hx rfl (hb hby d1_148) rfl ?_
    show own_S p e below T128 m 150 _ [(.int 0)] _
    exact retN X128 hx (t := .boolean) Bd.returns (by simp) (hb hby d1_150) hr
  · show Qf1 Z r0 r1 ka kb ma0 ma1 ma2 f0 f1 f2 x y z h0 n0 _ T128.heap _
    rw [e128]
    exact ⟨ma0, ma1, ma2, (0 : Int32), rfl, N128, KK130, (Fc122.other W128 (Nat.ne_of_lt (Nat.lt_of_lt_of_le V_r0.lt (Nat.le_of_eq g101.symm)))), (by rw [H1]; exact ⟨rfl, rfl, rfl, rfl⟩)⟩
theorem d1_65 : decode prog_8_method_2_code 65 = .ok (.iconst (-1), 1) := by decide +kernel
theorem d1_66 : decode prog_8_method_2_code 66 = .ok (.istore 6, 2) := by decide +kernel
theorem d1_68 : decode prog_8_method_2_code 68 = .ok (.iconst 0, 1) := by decide +kernel
theorem d1_69 : decode prog_8_method_2_code 69 = .ok (.istore 7, 2) := by decide +kernel
theorem d1_71 : decode prog_8_method_2_code 71 = .ok (.iload 7, 2) := by decide +kernel
theorem d1_73 : decode prog_8_method_2_code 73 = .ok (.aload_n 0, 1) := by decide +kernel
theorem d1_74 : decode prog_8_method_2_code 74 = .ok (.arraylength, 1) := by decide +kernel
theorem d1_75 : decode prog_8_method_2_code 75 = .ok (.if_icmp .ge 40, 3) := by decide +kernel
theorem d1_78 : decode prog_8_method_2_code 78 = .ok (.aload_n 3, 1) := by decide +kernel
theorem d1_79 : decode prog_8_method_2_code 79 = .ok (.aload_n 0, 1) := by decide +kernel
theorem d1_80 : decode prog_8_method_2_code 80 = .ok (.iload 7, 2) := by decide +kernel
theorem d1_82 : decode prog_8_method_2_code 82 = .ok (.iaload, 1) := by decide +kernel
theorem d1_83 : decode prog_8_method_2_code 83 = .ok (.iaload, 1) := by decide +kernel
theorem d1_84 : decode prog_8_method_2_code 84 = .ok (.iconst 1, 1) := by decide +kernel
theorem d1_85 : decode prog_8_method_2_code 85 = .ok (.if_icmp .le 24, 3) := by decide +kernel
theorem d1_88 : decode prog_8_method_2_code 88 = .ok (.iload 6, 2) := by decide +kernel
theorem d1_90 : decode prog_8_method_2_code 90 = .ok (.ifCond .lt 15, 3) := by decide +kernel
theorem d1_93 : decode prog_8_method_2_code 93 = .ok (.aload_n 1, 1) := by decide +kernel
theorem d1_94 : decode prog_8_method_2_code 94 = .ok (.iload 7, 2) := by decide +kernel
theorem d1_96 : decode prog_8_method_2_code 96 = .ok (.daload, 1) := by decide +kernel
theorem d1_97 : decode prog_8_method_2_code 97 = .ok (.aload_n 1, 1) := by decide +kernel
theorem d1_98 : decode prog_8_method_2_code 98 = .ok (.iload 6, 2) := by decide +kernel
theorem d1_100 : decode prog_8_method_2_code 100 = .ok (.daload, 1) := by decide +kernel
theorem d1_101 : decode prog_8_method_2_code 101 = .ok (.dcmp .g, 1) := by decide +kernel
theorem d1_102 : decode prog_8_method_2_code 102 = .ok (.ifCond .ge 7, 3) := by decide +kernel
theorem d1_105 : decode prog_8_method_2_code 105 = .ok (.iload 7, 2) := by decide +kernel
theorem d1_107 : decode prog_8_method_2_code 107 = .ok (.istore 6, 2) := by decide +kernel
theorem d1_109 : decode prog_8_method_2_code 109 = .ok (.iinc 7 1, 3) := by decide +kernel
theorem d1_112 : decode prog_8_method_2_code 112 = .ok (.goto (-41), 3) := by decide +kernel
theorem d1_115 : decode prog_8_method_2_code 115 = .ok (.aload_n 3, 1) := by decide +kernel
theorem d1_116 : decode prog_8_method_2_code 116 = .ok (.aload_n 0, 1) := by decide +kernel
theorem d1_117 : decode prog_8_method_2_code 117 = .ok (.iload 6, 2) := by decide +kernel
theorem d1_119 : decode prog_8_method_2_code 119 = .ok (.iaload, 1) := by decide +kernel
theorem d1_120 : decode prog_8_method_2_code 120 = .ok (.dup2, 1) := by decide +kernel
theorem d1_121 : decode prog_8_method_2_code 121 = .ok (.iaload, 1) := by decide +kernel
theorem d1_122 : decode prog_8_method_2_code 122 = .ok (.iconst 1, 1) := by decide +kernel
theorem d1_123 : decode prog_8_method_2_code 123 = .ok (.isub, 1) := by decide +kernel
theorem d1_124 : decode prog_8_method_2_code 124 = .ok (.iastore, 1) := by decide +kernel
theorem d1_125 : decode prog_8_method_2_code 125 = .ok (.aload_n 3, 1) := by decide +kernel
theorem d1_126 : decode prog_8_method_2_code 126 = .ok (.iload 5, 2) := by decide +kernel
theorem d1_128 : decode prog_8_method_2_code 128 = .ok (.dup2, 1) := by decide +kernel
theorem d1_129 : decode prog_8_method_2_code 129 = .ok (.iaload, 1) := by decide +kernel
theorem d1_130 : decode prog_8_method_2_code 130 = .ok (.iconst 1, 1) := by decide +kernel
theorem d1_131 : decode prog_8_method_2_code 131 = .ok (.iadd, 1) := by decide +kernel
theorem d1_132 : decode prog_8_method_2_code 132 = .ok (.iastore, 1) := by decide +kernel
theorem d1_133 : decode prog_8_method_2_code 133 = .ok (.aload_n 0, 1) := by decide +kernel
theorem d1_134 : decode prog_8_method_2_code 134 = .ok (.iload 6, 2) := by decide +kernel
theorem d1_136 : decode prog_8_method_2_code 136 = .ok (.iload 5, 2) := by decide +kernel
theorem d1_138 : decode prog_8_method_2_code 138 = .ok (.iastore, 1) := by decide +kernel
theorem d1_139 : decode prog_8_method_2_code 139 = .ok (.iconst 1, 1) := by decide +kernel
theorem d1_140 : decode prog_8_method_2_code 140 = .ok (.istore 4, 2) := by decide +kernel
theorem eff2 (m : MethodId) (r0 : Addr) (r1 : Addr) : entryFrame m #[(.ref r0), (.ref r1), (.int 2)] 8 = mkF m 0 #[oR r0, oR r1, oI 2, oU, oU, oU, oU, oU] [] := by first | (simp [entryFrame, mkF, argsToLocals, Value.category]; done) | rfl
def Qf2 (Z : State) (r0 : Addr) (r1 : Addr) (ka : ClassId) (kb : ClassId) (ma0 : Int32) (ma1 : Int32) (ma2 : Int32) (f0 : UInt64) (f1 : UInt64) (f2 : UInt64) (x : Bool) (y : Bool) (z : Bool) (h0 : Heap) (n0 : Nat) (v : Option Value) (h : Heap) (L : List Loc) : Prop := ∃ o0 : Int32, ∃ o1 : Int32, ∃ o2 : Int32, ∃ orr : Int32, v = some (.int orr) ∧ Fr n0 L ∧ (Keep h0 h [r0]) ∧ (Arv Z h r0 ka .int (3 : Int32) [(.int o0), (.int o1), (.int o2)] (.int 0)) ∧ ((own_F2 x y z ma0 ma1 ma2).m0 = o0 ∧ (own_F2 x y z ma0 ma1 ma2).m1 = o1 ∧ (own_F2 x y z ma0 ma1 ma2).m2 = o2 ∧ (own_F2 x y z ma0 ma1 ma2).r = orr)
set_option maxRecDepth 65536 in
set_option maxHeartbeats 40000000 in
theorem rmf2 (l : Launch) (Z : State) (a0 : Array Value) (hw : ∀ d ∈ tables_1, d.before a0 Z = true) (ws : List Jvm.Cond) (r0 : Addr) (r1 : Addr) (ka : ClassId) (kb : ClassId) (ma0 : Int32) (ma1 : Int32) (ma2 : Int32) (f0 : UInt64) (f1 : UInt64) (f2 : UInt64) (x : Bool) (y : Bool) (z : Bool) (h0 : Heap) (n0 : Nat) (Z0 : n0 ≤ h0.size) (V_r0 : Arv Z h0 r0 ka .int (3 : Int32) [(.int ma0), (.int ma1), (.int ma2)] (.int 0)) (V_r1 : Arv Z h0 r1 kb .double (3 : Int32) [(.double f0), (.double f1), (.double f2)] (.double 0)) (g_r0 : n0 ≤ r0) (ne_r1_r0 : r1 ≠ r0) (ra0 : (ma0 = 0 ∨ ma0 = 1)) (ra1 : (ma1 = 0 ∨ ma1 = 1)) (ra2 : (ma2 = 0 ∨ ma2 = 1)) (cx : (cmpValue (FP.dcmp f1 f0) .g) < (0 : Int32) ↔ x = true) (cy : (cmpValue (FP.dcmp f2 f0) .g) < (0 : Int32) ↔ y = true) (cz : (cmpValue (FP.dcmp f2 f1) .g) < (0 : Int32) ↔ z = true) :
    MetFree l (⟨"com/example/metasearch/metasearch/EmptyClusters", "fill", "([I[DI)Z"⟩ : MethodName) (head1 (Jvm.Cond.code (⟨"com/example/metasearch/metasearch/EmptyClusters", "fill", "([I[DI)Z"⟩ : MethodName) prog_8_method_2_code 8 (some .boolean) :: ws) ({ frames := 0, cells := 1, slots := 2, locals := 0 } : Room)) (fun a U => a = #[(.ref r0), (.ref r1), (.int 2)] ∧ Z.Warmed39 U.vm ∧ U.heap = h0) (fun _ _ _ _ _ => True) (fun _ U o U' => ∃ v L, o = .returned v ∧ Qf2 Z r0 r1 ka kb ma0 ma1 ma2 f0 f1 f2 x y z h0 n0 v U'.heap L ∧ FrameEnd U o U' L ({ frames := 0, cells := 1, slots := 2, locals := 0 } : Room).cells ({ frames := 0, cells := 1, slots := 2, locals := 0 } : Room).slots) := by
  refine MetFree.of_bodySF (plainFor_of_name pn1) hisR ?_
  intro p e s m args below meth c s₁ Bd hml0 hP hK
  obtain ⟨rfl, hZ, hh⟩ := hP
  have hx := Bd.exec
  have hby := Bd.bytes
  have hml : c.maxLocals = 8 := hml0
  have hown : s.vm.findClass "com/example/metasearch/metasearch/EmptyClusters" = some m.cls := findClass_of_methodNamed Bd.named
  have hnm := (name_of_methodNamed Bd.named Bd.method).1
  have X0 : Stand p l e ({ frames := 0, cells := 1, slots := 2, locals := 0 } : Room) s m #[(.ref r0), (.ref r1), (.int 2)] below meth c s₁ [] 0 0 := Stand.of_body Bd
  have e0 : s₁.heap = h0 := by rw [← hh, Bd.state]; rfl
  have N0 := Fr.nil n0
  have pre0 : ∀ t, Steps p.tables e below (s₁.setTop (mkF m 0 #[oR r0, oR r1, oI 2, oU, oU, oU, oU, oU] [])) t → Steps p.tables e below (s₁.setTop (entryFrame m #[(.ref r0), (.ref r1), (.int 2)] 8)) t := fun t k => castTop (eff2 m r0 r1) k
  obtain ⟨T101, h101, k101, X101, e101, E101, A101, st101⟩ := newP X0 hx hZ (own_w hw 1 rfl) e0 (g := (mkF m 1 #[oR r0, oR r1, oI 2, oU, oU, oU, oU, oU] [(.int 2)])) rfl (hb hby d1_1) rfl (by decide) (cap := 2) (by decide) (by decide) (by decide) (by decide)
  obtain ⟨b101, g101⟩ : ∃ z, z = h0.size := ⟨_, rfl⟩
  rw [← g101] at A101 st101
  have g_b101 : n0 ≤ b101 := Nat.le_trans Z0 (Nat.le_of_eq g101.symm)
  have sz_b101 : h0.size ≤ b101 := Nat.le_trans (Keep.refl h0 [r0]).1 (Nat.le_of_eq g101.symm)
  have ZZ102 : n0 ≤ h101.size := Nat.le_trans Z0 E101.1
  have KK103 : Keep h0 h101 [r0] := (Keep.refl h0 [r0]).ext E101
  have V_b101 : Arv Z h101 b101 k101 .int (2 : Int32) [(.int 0), (.int 0)] (.int 0) := (Arv.new A101 (by decide)).pad (pad_rep [] (.int 0) 2)
  obtain ⟨cl104, Ar104, qk104, Sz104, Nz104, Hh104, Gg104⟩ := id (V_r0.ext E101)
  obtain ⟨cl105, Ar105, qk105, Sz105, Nz105, Hh105, Gg105⟩ := id (V_r0.ext E101)
  have hin106 : ¬ ((0 : Int32) < 0 ∨ cl105.slots.size ≤ ((0 : Int32)).toNatClampNeg) := inb_of Sz105 ⟨by decide, by decide⟩
  have hat106 : cl105.slots[((0 : Int32)).toNatClampNeg]? = some (.int ma0) := Has.at Hh105 hin106 rfl
  obtain ⟨cl107, Ar107, qk107, Sz107, Nz107, Hh107, Gg107⟩ := id V_b101
  have hin108 : ¬ (ma0 < 0 ∨ cl107.slots.size ≤ (ma0).toNatClampNeg) := inb_of Sz107 (own_b2 ra0)
  have hat108 : cl107.slots[(ma0).toNatClampNeg]? = some (.int (own_at (0 : Int32) (0 : Int32) (0 : Int32) ma0)) := Has.at Hh107 hin108 (own_g2 ra0)
  obtain ⟨cc00, hcc00⟩ : ∃ zz, zz = own_p 0 ma0 ((own_at (0 : Int32) (0 : Int32) (0 : Int32) ma0) + (1 : Int32)) (0 : Int32) := ⟨_, rfl⟩
  obtain ⟨cc01, hcc01⟩ : ∃ zz, zz = own_p 1 ma0 ((own_at (0 : Int32) (0 : Int32) (0 : Int32) ma0) + (1 : Int32)) (0 : Int32) := ⟨_, rfl⟩
  obtain ⟨cc02, hcc02⟩ : ∃ zz, zz = own_p 2 ma0 ((own_at (0 : Int32) (0 : Int32) (0 : Int32) ma0) + (1 : Int32)) (0 : Int32) := ⟨_, rfl⟩
  have hin109 : ¬ (ma0 < 0 ∨ cl107.slots.size ≤ (ma0).toNatClampNeg) := inb_of Sz107 (own_b2 ra0)
  obtain ⟨T110, h110, X110, e110, W110, st110⟩ := stI X101 hx hZ e101 Ar107 (j := ma0) hin109 (g := (mkF m 36 #[oR r0, oR r1, oI 2, oR b101, oR r0, oI 3, oI 0, oI ma0] [(.int ((own_at (0 : Int32) (0 : Int32) (0 : Int32) ma0) + (1 : Int32))), (.int ma0), (.ref b101)])) rfl rfl (hb hby d1_36)
  have Va110 := Arv.set Ar107 qk107 Sz107 Nz107 Hh107 Gg107 rfl W110 (ma0).toNatClampNeg rfl (own_l2 ra0)
  have Vs110 : Arv Z h110 b101 k101 .int (2 : Int32) [(.int cc00), (.int cc01)] (.int 0) := by rw [← (by rw [hcc00, hcc01]; exact own_s2 ra0 : ([(.int 0), (.int 0)] : List Value).set (ma0).toNatClampNeg (.int ((own_at (0 : Int32) (0 : Int32) (0 : Int32) ma0) + (1 : Int32))) = [(.int cc00), (.int cc01)])]; exact Va110
  have N110 := Fr.snoc X110 N0 g_b101
  have ZZ111 : n0 ≤ h110.size := Nat.le_trans ZZ102 (Nat.le_of_eq W110.size.symm)
  have KK112 : Keep h0 h110 [r0] := KK103.wr W110 (Or.inr sz_b101)
  have Fc113 := ((V_r0.ext E101).other W110 (Nat.ne_of_lt (Nat.lt_of_lt_of_le V_r0.lt (Nat.le_of_eq g101.symm))))
  obtain ⟨cl114, Ar114, qk114, Sz114, Nz114, Hh114, Gg114⟩ := id Fc113
  have hin115 : ¬ ((1 : Int32) < 0 ∨ cl114.slots.size ≤ ((1 : Int32)).toNatClampNeg) := inb_of Sz114 ⟨by decide, by decide⟩
  have hat115 : cl114.slots[((1 : Int32)).toNatClampNeg]? = some (.int ma1) := Has.at Hh114 hin115 rfl
  obtain ⟨cl116, Ar116, qk116, Sz116, Nz116, Hh116, Gg116⟩ := id Vs110
  have hin117 : ¬ (ma1 < 0 ∨ cl116.slots.size ≤ (ma1).toNatClampNeg) := inb_of Sz116 (own_b2 ra1)
  have hat117 : cl116.slots[(ma1).toNatClampNeg]? = some (.int (own_at cc00 cc01 cc02 ma1)) := Has.at Hh116 hin117 (own_g2 ra1)
  obtain ⟨cc10, hcc10⟩ : ∃ zz, zz = own_p 0 ma1 ((own_at cc00 cc01 cc02 ma1) + (1 : Int32)) cc00 := ⟨_, rfl⟩
  obtain ⟨cc11, hcc11⟩ : ∃ zz, zz = own_p 1 ma1 ((own_at cc00 cc01 cc02 ma1) + (1 : Int32)) cc01 := ⟨_, rfl⟩
  obtain ⟨cc12, hcc12⟩ : ∃ zz, zz = own_p 2 ma1 ((own_at cc00 cc01 cc02 ma1) + (1 : Int32)) cc02 := ⟨_, rfl⟩
  have hin118 : ¬ (ma1 < 0 ∨ cl116.slots.size ≤ (ma1).toNatClampNeg) := inb_of Sz116 (own_b2 ra1)
  obtain ⟨T119, h119, X119, e119, W119, st119⟩ := stI X110 hx hZ e110 Ar116 (j := ma1) hin118 (g := (mkF m 36 #[oR r0, oR r1, oI 2, oR b101, oR r0, oI 3, oI 1, oI ma1] [(.int ((own_at cc00 cc01 cc02 ma1) + (1 : Int32))), (.int ma1), (.ref b101)])) rfl rfl (hb hby d1_36)
  have Va119 := Arv.set Ar116 qk116 Sz116 Nz116 Hh116 Gg116 rfl W119 (ma1).toNatClampNeg rfl (own_l2 ra1)
  have Vs119 : Arv Z h119 b101 k101 .int (2 : Int32) [(.int cc10), (.int cc11)] (.int 0) := by rw [← (by rw [hcc10, hcc11]; exact own_s2 ra1 : ([(.int cc00), (.int cc01)] : List Value).set (ma1).toNatClampNeg (.int ((own_at cc00 cc01 cc02 ma1) + (1 : Int32))) = [(.int cc10), (.int cc11)])]; exact Va119
  have N119 := Fr.snoc X119 N110 g_b101
  have ZZ120 : n0 ≤ h119.size := Nat.le_trans ZZ111 (Nat.le_of_eq W119.size.symm)
  have KK121 : Keep h0 h119 [r0] := KK112.wr W119 (Or.inr sz_b101)
  have Fc122 := (Fc113.other W119 (Nat.ne_of_lt (Nat.lt_of_lt_of_le V_r0.lt (Nat.le_of_eq g101.symm))))
  obtain ⟨cl123, Ar123, qk123, Sz123, Nz123, Hh123, Gg123⟩ := id Fc122
  have hin124 : ¬ ((2 : Int32) < 0 ∨ cl123.slots.size ≤ ((2 : Int32)).toNatClampNeg) := inb_of Sz123 ⟨by decide, by decide⟩
  have hat124 : cl123.slots[((2 : Int32)).toNatClampNeg]? = some (.int ma2) := Has.at Hh123 hin124 rfl
  obtain ⟨cl125, Ar125, qk125, Sz125, Nz125, Hh125, Gg125⟩ := id Vs119
  have hin126 : ¬ (ma2 < 0 ∨ cl125.slots.size ≤ (ma2).toNatClampNeg) := inb_of Sz125 (own_b2 ra2)
  have hat126 : cl125.slots[(ma2).toNatClampNeg]? = some (.int (own_at cc10 cc11 cc12 ma2)) := Has.at Hh125 hin126 (own_g2 ra2)
  obtain ⟨cc20, hcc20⟩ : ∃ zz, zz = own_p 0 ma2 ((own_at cc10 cc11 cc12 ma2) + (1 : Int32)) cc10 := ⟨_, rfl⟩
  obtain ⟨cc21, hcc21⟩ : ∃ zz, zz = own_p 1 ma2 ((own_at cc10 cc11 cc12 ma2) + (1 : Int32)) cc11 := ⟨_, rfl⟩
  obtain ⟨cc22, hcc22⟩ : ∃ zz, zz = own_p 2 ma2 ((own_at cc10 cc11 cc12 ma2) + (1 : Int32)) cc12 := ⟨_, rfl⟩
  have hin127 : ¬ (ma2 < 0 ∨ cl125.slots.size ≤ (ma2).toNatClampNeg) := inb_of Sz125 (own_b2 ra2)
  obtain ⟨T128, h128, X128, e128, W128, st128⟩ := stI X119 hx hZ e119 Ar125 (j := ma2) hin127 (g := (mkF m 36 #[oR r0, oR r1, oI 2, oR b101, oR r0, oI 3, oI 2, oI ma2] [(.int ((own_at cc10 cc11 cc12 ma2) + (1 : Int32))), (.int ma2), (.ref b101)])) rfl rfl (hb hby d1_36)
  have Va128 := Arv.set Ar125 qk125 Sz125 Nz125 Hh125 Gg125 rfl W128 (ma2).toNatClampNeg rfl (own_l2 ra2)
  have Vs128 : Arv Z h128 b101 k101 .int (2 : Int32) [(.int cc20), (.int cc21)] (.int 0) := by rw [← (by rw [hcc20, hcc21]; exact own_s2 ra2 : ([(.int cc10), (.int cc11)] : List Value).set (ma2).toNatClampNeg (.int ((own_at cc10 cc11 cc12 ma2) + (1 : Int32))) = [(.int cc20), (.int cc21)])]; exact Va128
  have N128 := Fr.snoc X128 N119 g_b101
  have ZZ129 : n0 ≤ h128.size := Nat.le_trans ZZ120 (Nat.le_of_eq W128.size.symm)
  have KK130 : Keep h0 h128 [r0] := KK121.wr W128 (Or.inr sz_b101)
  have H0 : own_F0 x y z ma0 ma1 ma2 = (⟨cc20, cc21, cc22, ma0, ma1, ma2, 0⟩ : own_St) := by rw [hcc20, hcc21, hcc22, hcc10, hcc11, hcc12, hcc00, hcc01, hcc02]; rfl
  obtain ⟨cl131, Ar131, qk131, Sz131, Nz131, Hh131, Gg131⟩ := id Vs128
  have hin132 : ¬ ((0 : Int32) < 0 ∨ cl131.slots.size ≤ ((0 : Int32)).toNatClampNeg) := inb_of Sz131 ⟨by decide, by decide⟩
  have hat132 : cl131.slots[((0 : Int32)).toNatClampNeg]? = some (.int cc20) := Has.at Hh131 hin132 rfl
  have pre133 : ∀ t, Steps p.tables e below (T128.setTop (mkF m 59 #[oR r0, oR r1, oI 2, oR b101, oI 0, oI 0, oI 3, oI ma2] [(.int cc20)])) t → Steps p.tables e below (s₁.setTop (mkF m 0 #[oR r0, oR r1, oI 2, oU, oU, oU, oU, oU] [])) t := by
    intro t kt
    show own_S p e below s₁ m 0 #[oR r0, oR r1, oI 2, oU, oU, oU, oU, oU] [] _
    refine XS.iloadN X0.here hx rfl (hb hby d1_0) rfl ?_
    show own_S p e below s₁ m 1 _ [(.int 2)] _
    refine st101 _ ?_
    show own_S p e below T101 m 3 _ [(.ref b101)] _
    refine XS.astoreN X101.here hx rfl (hb hby d1_3) rfl rfl (l' := #[oR r0, oR r1, oI 2, oR b101, oU, oU, oU, oU]) rfl ?_
    show own_S p e below T101 m 4 #[oR r0, oR r1, oI 2, oR b101, oU, oU, oU, oU] [] _
    refine XS.aloadN X101.here hx rfl (hb hby d1_4) rfl rfl ?_
    show own_S p e below T101 m 5 _ [(.ref r0)] _
    refine XS.astore X101.here hx rfl (hb hby d1_5) rfl rfl (l' := #[oR r0, oR r1, oI 2, oR b101, oR r0, oU, oU, oU]) rfl ?_
    show own_S p e below T101 m 7 #[oR r0, oR r1, oI 2, oR b101, oR r0, oU, oU, oU] [] _
    refine XS.aload X101.here hx rfl (hb hby d1_7) rfl rfl ?_
    show own_S p e below T101 m 9 _ [(.ref r0)] _
    refine X101.arraylength hx (by rw [e101]; exact Ar104.1) (State.isArrayOf_alike hZ.alike Ar104.2.1) (g := (mkF m 9 #[oR r0, oR r1, oI 2, oR b101, oR r0, oU, oU, oU] [(.ref r0)])) rfl rfl (hb hby d1_9) _ ?_
    rw [len_of Sz104 Nz104]
    show own_S p e below T101 m 10 _ [(.int 3)] _
    refine XS.istore X101.here hx rfl (hb hby d1_10) rfl (l' := #[oR r0, oR r1, oI 2, oR b101, oR r0, oI 3, oU, oU]) rfl ?_
    show own_S p e below T101 m 12 #[oR r0, oR r1, oI 2, oR b101, oR r0, oI 3, oU, oU] [] _
    refine XS.iconst X101.here hx rfl (hb hby d1_12) ?_
    show own_S p e below T101 m 13 _ [(.int 0)] _
    refine XS.istore X101.here hx rfl (hb hby d1_13) rfl (l' := #[oR r0, oR r1, oI 2, oR b101, oR r0, oI 3, oI 0, oU]) rfl ?_
    show own_S p e below T101 m 15 #[oR r0, oR r1, oI 2, oR b101, oR r0, oI 3, oI 0, oU] [] _
    refine XS.iload X101.here hx rfl (hb hby d1_15) rfl ?_
    show own_S p e below T101 m 17 _ [(.int 0)] _
    refine XS.iload X101.here hx rfl (hb hby d1_17) rfl ?_
    show own_S p e below T101 m 19 _ [(.int 3), (.int 0)] _
    refine XS.icmpNo X101.here hx rfl (hb hby d1_19) rfl (tlt (by decide : (0 : Int32) < (3 : Int32))).2.1 ?_
    show own_S p e below T101 m 22 _ [] _
    refine XS.aload X101.here hx rfl (hb hby d1_22) rfl rfl ?_
    show own_S p e below T101 m 24 _ [(.ref r0)] _
    refine XS.iload X101.here hx rfl (hb hby d1_24) rfl ?_
    show own_S p e below T101 m 26 _ [(.int 0), (.ref r0)] _
    refine X101.iaload hx (j := (0 : Int32)) (v := (.int ma0)) (by rw [e101]; exact Ar105.1) (State.isArrayOf_alike hZ.alike Ar105.2.1) Ar105.2.2 hin106 hat106 (g := (mkF m 26 #[oR r0, oR r1, oI 2, oR b101, oR r0, oI 3, oI 0, oU] [(.int 0), (.ref r0)])) rfl rfl (hb hby d1_26) _ ?_
    show own_S p e below T101 m 27 _ [(.int ma0)] _
    refine XS.istore X101.here hx rfl (hb hby d1_27) rfl (l' := #[oR r0, oR r1, oI 2, oR b101, oR r0, oI 3, oI 0, oI ma0]) rfl ?_
    show own_S p e below T101 m 29 #[oR r0, oR r1, oI 2, oR b101, oR r0, oI 3, oI 0, oI ma0] [] _
    refine XS.aloadN X101.here hx rfl (hb hby d1_29) rfl rfl ?_
    show own_S p e below T101 m 30 _ [(.ref b101)] _
    refine XS.iload X101.here hx rfl (hb hby d1_30) rfl ?_
    show own_S p e below T101 m 32 _ [(.int ma0), (.ref b101)] _
    jvm_step X101.here [X101.here.top, hx, (hb hby d1_32), Value.category]
    show own_S p e below T101 m 33 #[oR r0, oR r1, oI 2, oR b101, oR r0, oI 3, oI 0, oI ma0] [(.int ma0), (.ref b101), (.int ma0), (.ref b101)] _
    refine X101.iaload hx (j := ma0) (v := (.int (own_at (0 : Int32) (0 : Int32) (0 : Int32) ma0))) (by rw [e101]; exact Ar107.1) (State.isArrayOf_alike hZ.alike Ar107.2.1) Ar107.2.2 hin108 hat108 (g := (mkF m 33 #[oR r0, oR r1, oI 2, oR b101, oR r0, oI 3, oI 0, oI ma0] [(.int ma0), (.ref b101), (.int ma0), (.ref b101)])) rfl rfl (hb hby d1_33) _ ?_
    show own_S p e below T101 m 34 _ [(.int (own_at (0 : Int32) (0 : Int32) (0 : Int32) ma0)), (.int ma0), (.ref b101)] _
    refine XS.iconst X101.here hx rfl (hb hby d1_34) ?_
    show own_S p e below T101 m 35 _ [(.int 1), (.int (own_at (0 : Int32) (0 : Int32) (0 : Int32) ma0)), (.int ma0), (.ref b101)] _
    refine XS.iadd X101.here hx rfl (hb hby d1_35) rfl ?_
    show own_S p e below T101 m 36 _ [(.int ((own_at (0 : Int32) (0 : Int32) (0 : Int32) ma0) + (1 : Int32))), (.int ma0), (.ref b101)] _
    refine st110 _ ?_
    show own_S p e below T110 m 37 _ [] _
    refine XS.iinc X110.here hx rfl (hb hby d1_37) rfl (l' := #[oR r0, oR r1, oI 2, oR b101, oR r0, oI 3, oI 1, oI ma0]) rfl ?_
    show own_S p e below T110 m 40 #[oR r0, oR r1, oI 2, oR b101, oR r0, oI 3, oI 1, oI ma0] [] _
    refine XS.goto X110.here hx rfl (pc0 := 40) (pc' := 15) rfl (hb hby d1_40) (by decide) (by decide) ?_
    show own_S p e below T110 m 15 _ [] _
    refine XS.iload X110.here hx rfl (hb hby d1_15) rfl ?_
    show own_S p e below T110 m 17 _ [(.int 1)] _
    refine XS.iload X110.here hx rfl (hb hby d1_17) rfl ?_
    show own_S p e below T110 m 19 _ [(.int 3), (.int 1)] _
    refine XS.icmpNo X110.here hx rfl (hb hby d1_19) rfl (tlt (by decide : (1 : Int32) < (3 : Int32))).2.1 ?_
    show own_S p e below T110 m 22 _ [] _
    refine XS.aload X110.here hx rfl (hb hby d1_22) rfl rfl ?_
    show own_S p e below T110 m 24 _ [(.ref r0)] _
    refine XS.iload X110.here hx rfl (hb hby d1_24) rfl ?_
    show own_S p e below T110 m 26 _ [(.int 1), (.ref r0)] _
    refine X110.iaload hx (j := (1 : Int32)) (v := (.int ma1)) (by rw [e110]; exact Ar114.1) (State.isArrayOf_alike hZ.alike Ar114.2.1) Ar114.2.2 hin115 hat115 (g := (mkF m 26 #[oR r0, oR r1, oI 2, oR b101, oR r0, oI 3, oI 1, oI ma0] [(.int 1), (.ref r0)])) rfl rfl (hb hby d1_26) _ ?_
    show own_S p e below T110 m 27 #[oR r0, oR r1, oI 2, oR b101, oR r0, oI 3, oI 1, oI ma0] [(.int ma1)] _
    refine XS.istore X110.here hx rfl (hb hby d1_27) rfl (l' := #[oR r0, oR r1, oI 2, oR b101, oR r0, oI 3, oI 1, oI ma1]) rfl ?_
    show own_S p e below T110 m 29 #[oR r0, oR r1, oI 2, oR b101, oR r0, oI 3, oI 1, oI ma1] [] _
    refine XS.aloadN X110.here hx rfl (hb hby d1_29) rfl rfl ?_
    show own_S p e below T110 m 30 _ [(.ref b101)] _
    refine XS.iload X110.here hx rfl (hb hby d1_30) rfl ?_
    show own_S p e below T110 m 32 _ [(.int ma1), (.ref b101)] _
    jvm_step X110.here [X110.here.top, hx, (hb hby d1_32), Value.category]
    show own_S p e below T110 m 33 #[oR r0, oR r1, oI 2, oR b101, oR r0, oI 3, oI 1, oI ma1] [(.int ma1), (.ref b101), (.int ma1), (.ref b101)] _
    refine X110.iaload hx (j := ma1) (v := (.int (own_at cc00 cc01 cc02 ma1))) (by rw [e110]; exact Ar116.1) (State.isArrayOf_alike hZ.alike Ar116.2.1) Ar116.2.2 hin117 hat117 (g := (mkF m 33 #[oR r0, oR r1, oI 2, oR b101, oR r0, oI 3, oI 1, oI ma1] [(.int ma1), (.ref b101), (.int ma1), (.ref b101)])) rfl rfl (hb hby d1_33) _ ?_
    show own_S p e below T110 m 34 _ [(.int (own_at cc00 cc01 cc02 ma1)), (.int ma1), (.ref b101)] _
    refine XS.iconst X110.here hx rfl (hb hby d1_34) ?_
    show own_S p e below T110 m 35 _ [(.int 1), (.int (own_at cc00 cc01 cc02 ma1)), (.int ma1), (.ref b101)] _
    refine XS.iadd X110.here hx rfl (hb hby d1_35) rfl ?_
    show own_S p e below T110 m 36 _ [(.int ((own_at cc00 cc01 cc02 ma1) + (1 : Int32))), (.int ma1), (.ref b101)] _
    refine st119 _ ?_
    show own_S p e below T119 m 37 _ [] _
    refine XS.iinc X119.here hx rfl (hb hby d1_37) rfl (l' := #[oR r0, oR r1, oI 2, oR b101, oR r0, oI 3, oI 2, oI ma1]) rfl ?_
    show own_S p e below T119 m 40 #[oR r0, oR r1, oI 2, oR b101, oR r0, oI 3, oI 2, oI ma1] [] _
    refine XS.goto X119.here hx rfl (pc0 := 40) (pc' := 15) rfl (hb hby d1_40) (by decide) (by decide) ?_
    show own_S p e below T119 m 15 _ [] _
    refine XS.iload X119.here hx rfl (hb hby d1_15) rfl ?_
    show own_S p e below T119 m 17 _ [(.int 2)] _
    refine XS.iload X119.here hx rfl (hb hby d1_17) rfl ?_
    show own_S p e below T119 m 19 _ [(.int 3), (.int 2)] _
    refine XS.icmpNo X119.here hx rfl (hb hby d1_19) rfl (tlt (by decide : (2 : Int32) < (3 : Int32))).2.1 ?_
    show own_S p e below T119 m 22 _ [] _
    refine XS.aload X119.here hx rfl (hb hby d1_22) rfl rfl ?_
    show own_S p e below T119 m 24 _ [(.ref r0)] _
    refine XS.iload X119.here hx rfl (hb hby d1_24) rfl ?_
    show own_S p e below T119 m 26 _ [(.int 2), (.ref r0)] _
    refine X119.iaload hx (j := (2 : Int32)) (v := (.int ma2)) (by rw [e119]; exact Ar123.1) (State.isArrayOf_alike hZ.alike Ar123.2.1) Ar123.2.2 hin124 hat124 (g := (mkF m 26 #[oR r0, oR r1, oI 2, oR b101, oR r0, oI 3, oI 2, oI ma1] [(.int 2), (.ref r0)])) rfl rfl (hb hby d1_26) _ ?_
    show own_S p e below T119 m 27 #[oR r0, oR r1, oI 2, oR b101, oR r0, oI 3, oI 2, oI ma1] [(.int ma2)] _
    refine XS.istore X119.here hx rfl (hb hby d1_27) rfl (l' := #[oR r0, oR r1, oI 2, oR b101, oR r0, oI 3, oI 2, oI ma2]) rfl ?_
    show own_S p e below T119 m 29 #[oR r0, oR r1, oI 2, oR b101, oR r0, oI 3, oI 2, oI ma2] [] _
    refine XS.aloadN X119.here hx rfl (hb hby d1_29) rfl rfl ?_
    show own_S p e below T119 m 30 _ [(.ref b101)] _
    refine XS.iload X119.here hx rfl (hb hby d1_30) rfl ?_
    show own_S p e below T119 m 32 _ [(.int ma2), (.ref b101)] _
    jvm_step X119.here [X119.here.top, hx, (hb hby d1_32), Value.category]
    show own_S p e below T119 m 33 #[oR r0, oR r1, oI 2, oR b101, oR r0, oI 3, oI 2, oI ma2] [(.int ma2), (.ref b101), (.int ma2), (.ref b101)] _
    refine X119.iaload hx (j := ma2) (v := (.int (own_at cc10 cc11 cc12 ma2))) (by rw [e119]; exact Ar125.1) (State.isArrayOf_alike hZ.alike Ar125.2.1) Ar125.2.2 hin126 hat126 (g := (mkF m 33 #[oR r0, oR r1, oI 2, oR b101, oR r0, oI 3, oI 2, oI ma2] [(.int ma2), (.ref b101), (.int ma2), (.ref b101)])) rfl rfl (hb hby d1_33) _ ?_
    show own_S p e below T119 m 34 _ [(.int (own_at cc10 cc11 cc12 ma2)), (.int ma2), (.ref b101)] _
    refine XS.iconst X119.here hx rfl (hb hby d1_34) ?_
    show own_S p e below T119 m 35 _ [(.int 1), (.int (own_at cc10 cc11 cc12 ma2)), (.int ma2), (.ref b101)] _
    refine XS.iadd X119.here hx rfl (hb hby d1_35) rfl ?_
    show own_S p e below T119 m 36 _ [(.int ((own_at cc10 cc11 cc12 ma2) + (1 : Int32))), (.int ma2), (.ref b101)] _
    refine st128 _ ?_
    show own_S p e below T128 m 37 _ [] _
    refine XS.iinc X128.here hx rfl (hb hby d1_37) rfl (l' := #[oR r0, oR r1, oI 2, oR b101, oR r0, oI 3, oI 3, oI ma2]) rfl ?_
    show own_S p e below T128 m 40 #[oR r0, oR r1, oI 2, oR b101, oR r0, oI 3, oI 3, oI ma2] [] _
    refine XS.goto X128.here hx rfl (pc0 := 40) (pc' := 15) rfl (hb hby d1_40) (by decide) (by decide) ?_
    show own_S p e below T128 m 15 _ [] _
    refine XS.iload X128.here hx rfl (hb hby d1_15) rfl ?_
    show own_S p e below T128 m 17 _ [(.int 3)] _
    refine XS.iload X128.here hx rfl (hb hby d1_17) rfl ?_
    show own_S p e below T128 m 19 _ [(.int 3), (.int 3)] _
    refine XS.icmpYes X128.here hx rfl (pc0 := 19) (pc' := 43) rfl (hb hby d1_19) rfl (flt (by decide : ¬ ((3 : Int32) < (3 : Int32)))).2.1 (by decide) (by decide) ?_
    show own_S p e below T128 m 43 _ [] _
    refine XS.iconst X128.here hx rfl (hb hby d1_43) ?_
    show own_S p e below T128 m 44 _ [(.int 0)] _
    refine XS.istore X128.here hx rfl (hb hby d1_44) rfl (l' := #[oR r0, oR r1, oI 2, oR b101, oI 0, oI 3, oI 3, oI ma2]) rfl ?_
    show own_S p e below T128 m 46 #[oR r0, oR r1, oI 2, oR b101, oI 0, oI 3, oI 3, oI ma2] [] _
    refine XS.iconst X128.here hx rfl (hb hby d1_46) ?_
    show own_S p e below T128 m 47 _ [(.int 0)] _
    refine XS.istore X128.here hx rfl (hb hby d1_47) rfl (l' := #[oR r0, oR r1, oI 2, oR b101, oI 0, oI 0, oI 3, oI ma2]) rfl ?_
    show own_S p e below T128 m 49 #[oR r0, oR r1, oI 2, oR b101, oI 0, oI 0, oI 3, oI ma2] [] _
    refine XS.iload X128.here hx rfl (hb hby d1_49) rfl ?_
    show own_S p e below T128 m 51 _ [(.int 0)] _
    refine XS.iloadN X128.here hx rfl (hb hby d1_51) rfl ?_
    show own_S p e below T128 m 52 _ [(.int 2), (.int 0)] _
    refine XS.icmpNo X128.here hx rfl (hb hby d1_52) rfl (tlt (by decide : (0 : Int32) < (2 : Int32))).2.1 ?_
    show own_S p e below T128 m 55 _ [] _
    refine XS.aloadN X128.here hx rfl (hb hby d1_55) rfl rfl ?_
    show own_S p e below T128 m 56 _ [(.ref b101)] _
    refine XS.iload X128.here hx rfl (hb hby d1_56) rfl ?_
    show own_S p e below T128 m 58 _ [(.int 0), (.ref b101)] _
    refine X128.iaload hx (j := (0 : Int32)) (v := (.int cc20)) (by rw [e128]; exact Ar131.1) (State.isArrayOf_alike hZ.alike Ar131.2.1) Ar131.2.2 hin132 hat132 (g := (mkF m 58 #[oR r0, oR r1, oI 2, oR b101, oI 0, oI 0, oI 3, oI ma2] [(.int 0), (.ref b101)])) rfl rfl (hb hby d1_58) _ ?_
    exact kt
  by_cases he0 : (0 : Int32) < cc20
  · skip
    have H1 : own_F1 x y z ma0 ma1 ma2 = (⟨cc20, cc21, cc22, ma0, ma1, ma2, (0 : Int32)⟩ : own_St) := own_F1p H0 he0
    have hin134 : ¬ ((1 : Int32) < 0 ∨ cl131.slots.size ≤ ((1 : Int32)).toNatClampNeg) := inb_of Sz131 ⟨by decide, by decide⟩
    have hat134 : cl131.slots[((1 : Int32)).toNatClampNeg]? = some (.int cc21) := Has.at Hh131 hin134 rfl
    have pre135 : ∀ t, Steps p.tables e below (T128.setTop (mkF m 59 #[oR r0, oR r1, oI 2, oR b101, oI 0, oI 1, oI 3, oI ma2] [(.int cc21)])) t → Steps p.tables e below (s₁.setTop (mkF m 0 #[oR r0, oR r1, oI 2, oU, oU, oU, oU, oU] [])) t := by
      intro t kt
      refine pre133 _ ?_
      show own_S p e below T128 m 59 #[oR r0, oR r1, oI 2, oR b101, oI 0, oI 0, oI 3, oI ma2] [(.int cc20)] _
      refine XS.ifNo X128.here hx rfl (hb hby d1_59) rfl ((if0 _ _).trans (tlt (he0 : (0 : Int32) < cc20)).2.2.2) ?_
      show own_S p e below T128 m 62 _ [] _
      refine XS.goto X128.here hx rfl (pc0 := 62) (pc' := 142) rfl (hb hby d1_62) (by decide) (by decide) ?_
      show own_S p e below T128 m 142 _ [] _
      refine XS.iinc X128.here hx rfl (hb hby d1_142) rfl (l' := #[oR r0, oR r1, oI 2, oR b101, oI 0, oI 1, oI 3, oI ma2]) rfl ?_
      show own_S p e below T128 m 145 #[oR r0, oR r1, oI 2, oR b101, oI 0, oI 1, oI 3, oI ma2] [] _
      refine XS.goto X128.here hx rfl (pc0 := 145) (pc' := 49) rfl (hb hby d1_145) (by decide) (by decide) ?_
      show own_S p e below T128 m 49 _ [] _
      refine XS.iload X128.here hx rfl (hb hby d1_49) rfl ?_
      show own_S p e below T128 m 51 _ [(.int 1)] _
      refine XS.iloadN X128.here hx rfl (hb hby d1_51) rfl ?_
      show own_S p e below T128 m 52 _ [(.int 2), (.int 1)] _
      refine XS.icmpNo X128.here hx rfl (hb hby d1_52) rfl (tlt (by decide : (1 : Int32) < (2 : Int32))).2.1 ?_
      show own_S p e below T128 m 55 _ [] _
      refine XS.aloadN X128.here hx rfl (hb hby d1_55) rfl rfl ?_
      show own_S p e below T128 m 56 _ [(.ref b101)] _
      refine XS.iload X128.here hx rfl (hb hby d1_56) rfl ?_
      show own_S p e below T128 m 58 _ [(.int 1), (.ref b101)] _
      refine X128.iaload hx (j := (1 : Int32)) (v := (.int cc21)) (by rw [e128]; exact Ar131.1) (State.isArrayOf_alike hZ.alike Ar131.2.1) Ar131.2.2 hin134 hat134 (g := (mkF m 58 #[oR r0, oR r1, oI 2, oR b101, oI 0, oI 1, oI 3, oI ma2] [(.int 1), (.ref b101)])) rfl rfl (hb hby d1_58) _ ?_
      exact kt
    by_cases he1 : (0 : Int32) < cc21
    · skip
      have H2 : own_F2 x y z ma0 ma1 ma2 = (⟨cc20, cc21, cc22, ma0, ma1, ma2, (0 : Int32)⟩ : own_St) := own_F2p H1 he1
      obtain ⟨fs, hr, hrun, hended, hW, hsame⟩ := X128.leave (v := some (.int 0)) (fun h => by rw [Bd.returns] at h; cases h)
      refine ⟨_, _, pre0 _ (pre135 _ ?_), hrun, hended, _, _, rfl, ?_, ⟨_, rfl⟩, hW, hsame.mono (by decide) (by decide)⟩
      · show own_S p e below T128 m 59 #[oR r0, oR r1, oI 2, oR b101, oI 0, oI 1, oI 3, oI ma2] [(.int cc21)] _
        refine XS.ifNo X128.here hx rfl (hb hby d1_59) rfl ((if0 _ _).trans (tlt (he1 : (0 : Int32) < cc21)).2.2.2) ?_
        show own_S p e below T128 m 62 _ [] _
        refine XS.goto X128.here hx rfl (pc0 := 62) (pc' := 142) rfl (hb hby d1_62) (by decide) (by decide) ?_
        show own_S p e below T128 m 142 _ [] _
        refine XS.iinc X128.here hx rfl (hb hby d1_142) rfl (l' := #[oR r0, oR r1, oI 2, oR b101, oI 0, oI 2, oI 3, oI ma2]) rfl ?_
        show own_S p e below T128 m 145 #[oR r0, oR r1, oI 2, oR b101, oI 0, oI 2, oI 3, oI ma2] [] _
        refine XS.goto X128.here hx rfl (pc0 := 145) (pc' := 49) rfl (hb hby d1_145) (by decide) (by decide) ?_
        show own_S p e below T128 m 49 _ [] _
        refine XS.iload X128.here hx rfl (hb hby d1_49) rfl ?_
        show own_S p e below T128 m 51 _ [(.int 2)] _
        refine XS.iloadN X128.here hx rfl (hb hby d1_51) rfl ?_
        show own_S p e below T128 m 52 _ [(.int 2), (.int 2)] _
        refine XS.icmpYes X128.here hx rfl (pc0 := 52) (pc' := 148) rfl (hb hby d1_52) rfl (flt (by decide : ¬ ((2 : Int32) < (2 : Int32)))).2.1 (by decide) (by decide) ?_
        show own_S p e below T128 m 148 _ [] _
        refine XS.iload X128.here hx rfl (hb hby d1_148) rfl ?_
        show own_S p e below T128 m 150 _ [(.int 0)] _
        exact retN X128 hx (t := .boolean) Bd.returns (by simp) (hb hby d1_150) hr
      · show Qf2 Z r0 r1 ka kb ma0 ma1 ma2 f0 f1 f2 x y z h0 n0 _ T128.heap _
        rw [e128]
        exact ⟨ma0, ma1, ma2, (0 : Int32), rfl, N128, KK130, (Fc122.other W128 (Nat.ne_of_lt (Nat.lt_of_lt_of_le V_r0.lt (Nat.le_of_eq g101.symm)))), (by rw [H2]; exact ⟨rfl, rfl, rfl, rfl⟩)⟩
    · skip
      obtain ⟨w1ft_, hw1ft_⟩ : ∃ zz, zz = own_w1 (own_at cc20 cc21 cc22 ma0) := ⟨_, rfl⟩
      obtain ⟨w2ft_, hw2ft_⟩ : ∃ zz, zz = own_w2 x (own_at cc20 cc21 cc22 ma1) w1ft_ := ⟨_, rfl⟩
      obtain ⟨w3ft_, hw3ft_⟩ : ∃ zz, zz = own_w3 y z (own_at cc20 cc21 cc22 ma2) w2ft_ := ⟨_, rfl⟩
      obtain ⟨mwft_, hmwft_⟩ : ∃ zz, zz = own_at ma0 ma1 ma2 w3ft_ := ⟨_, rfl⟩
      obtain ⟨d0ft_, hd0ft_⟩ : ∃ zz, zz = own_p 0 mwft_ ((own_at cc20 cc21 cc22 mwft_) - (1 : Int32)) cc20 := ⟨_, rfl⟩
      obtain ⟨d1ft_, hd1ft_⟩ : ∃ zz, zz = own_p 1 mwft_ ((own_at cc20 cc21 cc22 mwft_) - (1 : Int32)) cc21 := ⟨_, rfl⟩
      obtain ⟨d2ft_, hd2ft_⟩ : ∃ zz, zz = own_p 2 mwft_ ((own_at cc20 cc21 cc22 mwft_) - (1 : Int32)) cc22 := ⟨_, rfl⟩
      obtain ⟨n0ft_, hn0ft_⟩ : ∃ zz, zz = own_p 0 w3ft_ (1 : Int32) ma0 := ⟨_, rfl⟩
      obtain ⟨n1ft_, hn1ft_⟩ : ∃ zz, zz = own_p 1 w3ft_ (1 : Int32) ma1 := ⟨_, rfl⟩
      obtain ⟨n2ft_, hn2ft_⟩ : ∃ zz, zz = own_p 2 w3ft_ (1 : Int32) ma2 := ⟨_, rfl⟩
      have hWw3ft_ : (w3ft_ = 0 ∨ w3ft_ = 1 ∨ w3ft_ = 2) := by
        have q := own_L21 x y z ra0 ra1 ra2
        rw [H1, own_worstE hw1ft_ hw2ft_ hw3ft_] at q
        exact q he1
      have hRmwft_ : (mwft_ = 0 ∨ mwft_ = 1) := by rw [hmwft_]; exact own_atr (P := fun i => (i = 0 ∨ i = 1)) ra0 ra1 ra2
      have hRn0ft_ : (n0ft_ = 0 ∨ n0ft_ = 1) := by rw [hn0ft_]; exact own_pr (P := fun i => (i = 0 ∨ i = 1)) (by decide) ra0
      have hRn1ft_ : (n1ft_ = 0 ∨ n1ft_ = 1) := by rw [hn1ft_]; exact own_pr (P := fun i => (i = 0 ∨ i = 1)) (by decide) ra1
      have hRn2ft_ : (n2ft_ = 0 ∨ n2ft_ = 1) := by rw [hn2ft_]; exact own_pr (P := fun i => (i = 0 ∨ i = 1)) (by decide) ra2
      have H2 : own_F2 x y z ma0 ma1 ma2 = (⟨d0ft_, (d1ft_ + (1 : Int32)), d2ft_, n0ft_, n1ft_, n2ft_, (1 : Int32)⟩ : own_St) := own_F2u H1 he1 hw1ft_ hw2ft_ hw3ft_ hmwft_ hd0ft_ hd1ft_ hd2ft_ hn0ft_ hn1ft_ hn2ft_
      have Fc136 := (Fc122.other W128 (Nat.ne_of_lt (Nat.lt_of_lt_of_le V_r0.lt (Nat.le_of_eq g101.symm))))
      obtain ⟨cl137, Ar137, qk137, Sz137, Nz137, Hh137, Gg137⟩ := id Fc136
      have hin138 : ¬ ((0 : Int32) < 0 ∨ cl137.slots.size ≤ ((0 : Int32)).toNatClampNeg) := inb_of Sz137 ⟨by decide, by decide⟩
      have hat138 : cl137.slots[((0 : Int32)).toNatClampNeg]? = some (.int ma0) := Has.at Hh137 hin138 rfl
      have hin139 : ¬ (ma0 < 0 ∨ cl131.slots.size ≤ (ma0).toNatClampNeg) := inb_of Sz131 (own_b2 ra0)
      have hat139 : cl131.slots[(ma0).toNatClampNeg]? = some (.int (own_at cc20 cc21 cc22 ma0)) := Has.at Hh131 hin139 (own_g2 ra0)
      have pre140 : ∀ t, Steps p.tables e below (T128.setTop (mkF m 85 #[oR r0, oR r1, oI 2, oR b101, oI 0, oI 1, oI (-1), oI 0] [(.int 1), (.int (own_at cc20 cc21 cc22 ma0))])) t → Steps p.tables e below (s₁.setTop (mkF m 0 #[oR r0, oR r1, oI 2, oU, oU, oU, oU, oU] [])) t := by
        intro t kt
        refine pre135 _ ?_
        show own_S p e below T128 m 59 #[oR r0, oR r1, oI 2, oR b101, oI 0, oI 1, oI 3, oI ma2] [(.int cc21)] _
        refine XS.ifYes X128.here hx rfl (pc0 := 59) (pc' := 65) rfl (hb hby d1_59) rfl ((if0 _ _).trans (flt (he1 : ¬ ((0 : Int32) < cc21))).2.2.2) (by decide) (by decide) ?_
        show own_S p e below T128 m 65 _ [] _
        refine XS.iconst X128.here hx rfl (hb hby d1_65) ?_
        show own_S p e below T128 m 66 _ [(.int (-1))] _
        refine XS.istore X128.here hx rfl (hb hby d1_66) rfl (l' := #[oR r0, oR r1, oI 2, oR b101, oI 0, oI 1, oI (-1), oI ma2]) rfl ?_
        show own_S p e below T128 m 68 #[oR r0, oR r1, oI 2, oR b101, oI 0, oI 1, oI (-1), oI ma2] [] _
        refine XS.iconst X128.here hx rfl (hb hby d1_68) ?_
        show own_S p e below T128 m 69 _ [(.int 0)] _
        refine XS.istore X128.here hx rfl (hb hby d1_69) rfl (l' := #[oR r0, oR r1, oI 2, oR b101, oI 0, oI 1, oI (-1), oI 0]) rfl ?_
        show own_S p e below T128 m 71 #[oR r0, oR r1, oI 2, oR b101, oI 0, oI 1, oI (-1), oI 0] [] _
        refine XS.iload X128.here hx rfl (hb hby d1_71) rfl ?_
        show own_S p e below T128 m 73 _ [(.int 0)] _
        refine XS.aloadN X128.here hx rfl (hb hby d1_73) rfl rfl ?_
        show own_S p e below T128 m 74 _ [(.ref r0), (.int 0)] _
        refine X128.arraylength hx (by rw [e128]; exact Ar137.1) (State.isArrayOf_alike hZ.alike Ar137.2.1) (g := (mkF m 74 #[oR r0, oR r1, oI 2, oR b101, oI 0, oI 1, oI (-1), oI 0] [(.ref r0), (.int 0)])) rfl rfl (hb hby d1_74) _ ?_
        rw [len_of Sz137 Nz137]
        show own_S p e below T128 m 75 _ [(.int 3), (.int 0)] _
        refine XS.icmpNo X128.here hx rfl (hb hby d1_75) rfl (tlt (by decide : (0 : Int32) < (3 : Int32))).2.1 ?_
        show own_S p e below T128 m 78 _ [] _
        refine XS.aloadN X128.here hx rfl (hb hby d1_78) rfl rfl ?_
        show own_S p e below T128 m 79 _ [(.ref b101)] _
        refine XS.aloadN X128.here hx rfl (hb hby d1_79) rfl rfl ?_
        show own_S p e below T128 m 80 _ [(.ref r0), (.ref b101)] _
        refine XS.iload X128.here hx rfl (hb hby d1_80) rfl ?_
        show own_S p e below T128 m 82 #[oR r0, oR r1, oI 2, oR b101, oI 0, oI 1, oI (-1), oI 0] [(.int 0), (.ref r0), (.ref b101)] _
        refine X128.iaload hx (j := (0 : Int32)) (v := (.int ma0)) (by rw [e128]; exact Ar137.1) (State.isArrayOf_alike hZ.alike Ar137.2.1) Ar137.2.2 hin138 hat138 (g := (mkF m 82 #[oR r0, oR r1, oI 2, oR b101, oI 0, oI 1, oI (-1), oI 0] [(.int 0), (.ref r0), (.ref b101)])) rfl rfl (hb hby d1_82) _ ?_
        show own_S p e below T128 m 83 _ [(.int ma0), (.ref b101)] _
        refine X128.iaload hx (j := ma0) (v := (.int (own_at cc20 cc21 cc22 ma0))) (by rw [e128]; exact Ar131.1) (State.isArrayOf_alike hZ.alike Ar131.2.1) Ar131.2.2 hin139 hat139 (g := (mkF m 83 #[oR r0, oR r1, oI 2, oR b101, oI 0, oI 1, oI (-1), oI 0] [(.int ma0), (.ref b101)])) rfl rfl (hb hby d1_83) _ ?_
        show own_S p e below T128 m 84 _ [(.int (own_at cc20 cc21 cc22 ma0))] _
        refine XS.iconst X128.here hx rfl (hb hby d1_84) ?_
        exact kt
      have pre141 : ∀ t, Steps p.tables e below (T128.setTop (mkF m 109 #[oR r0, oR r1, oI 2, oR b101, oI 0, oI 1, oI w1ft_, oI 0] [])) t → Steps p.tables e below (s₁.setTop (mkF m 0 #[oR r0, oR r1, oI 2, oU, oU, oU, oU, oU] [])) t := by
        intro t kt
        refine pre140 _ ?_
        show own_S p e below T128 m 85 #[oR r0, oR r1, oI 2, oR b101, oI 0, oI 1, oI (-1), oI 0] [(.int 1), (.int (own_at cc20 cc21 cc22 ma0))] _
        by_cases hj : (1 : Int32) < (own_at cc20 cc21 cc22 ma0)
        · skip
          refine XS.icmpNo X128.here hx rfl (hb hby d1_85) rfl (tlt (hj : (1 : Int32) < (own_at cc20 cc21 cc22 ma0))).2.2.2 ?_
          show own_S p e below T128 m 88 #[oR r0, oR r1, oI 2, oR b101, oI 0, oI 1, oI (-1), oI 0] [] _
          refine XS.iload X128.here hx rfl (hb hby d1_88) rfl ?_
          show own_S p e below T128 m 90 _ [(.int (-1))] _
          refine XS.ifYes X128.here hx rfl (pc0 := 90) (pc' := 105) rfl (hb hby d1_90) rfl ((if0 _ _).trans (tlt (by decide : (-1 : Int32) < (0 : Int32))).1) (by decide) (by decide) ?_
          show own_S p e below T128 m 105 _ [] _
          refine XS.iload X128.here hx rfl (hb hby d1_105) rfl ?_
          show own_S p e below T128 m 107 _ [(.int 0)] _
          refine XS.istore X128.here hx rfl (hb hby d1_107) rfl (l' := #[oR r0, oR r1, oI 2, oR b101, oI 0, oI 1, oI 0, oI 0]) rfl ?_
          rw [(hw1ft_.trans (if_pos hj) : w1ft_ = (0 : Int32))] at kt
          exact kt
        · skip
          refine XS.icmpYes X128.here hx rfl (pc0 := 85) (pc' := 109) rfl (hb hby d1_85) rfl (flt (hj : ¬ ((1 : Int32) < (own_at cc20 cc21 cc22 ma0)))).2.2.2 (by decide) (by decide) ?_
          rw [(hw1ft_.trans (if_neg hj) : w1ft_ = (-1 : Int32))] at kt
          exact kt
      have hin142 : ¬ ((1 : Int32) < 0 ∨ cl137.slots.size ≤ ((1 : Int32)).toNatClampNeg) := inb_of Sz137 ⟨by decide, by decide⟩
      have hat142 : cl137.slots[((1 : Int32)).toNatClampNeg]? = some (.int ma1) := Has.at Hh137 hin142 rfl
      have hin143 : ¬ (ma1 < 0 ∨ cl131.slots.size ≤ (ma1).toNatClampNeg) := inb_of Sz131 (own_b2 ra1)
      have hat143 : cl131.slots[(ma1).toNatClampNeg]? = some (.int (own_at cc20 cc21 cc22 ma1)) := Has.at Hh131 hin143 (own_g2 ra1)
      have pre144 : ∀ t, Steps p.tables e below (T128.setTop (mkF m 85 #[oR r0, oR r1, oI 2, oR b101, oI 0, oI 1, oI w1ft_, oI 1] [(.int 1), (.int (own_at cc20 cc21 cc22 ma1))])) t → Steps p.tables e below (s₁.setTop (mkF m 0 #[oR r0, oR r1, oI 2, oU, oU, oU, oU, oU] [])) t := by
        intro t kt
        refine pre141 _ ?_
        show own_S p e below T128 m 109 #[oR r0, oR r1, oI 2, oR b101, oI 0, oI 1, oI w1ft_, oI 0] [] _
        refine XS.iinc X128.here hx rfl (hb hby d1_109) rfl (l' := #[oR r0, oR r1, oI 2, oR b101, oI 0, oI 1, oI w1ft_, oI 1]) rfl ?_
        show own_S p e below T128 m 112 #[oR r0, oR r1, oI 2, oR b101, oI 0, oI 1, oI w1ft_, oI 1] [] _
        refine XS.goto X128.here hx rfl (pc0 := 112) (pc' := 71) rfl (hb hby d1_112) (by decide) (by decide) ?_
        show own_S p e below T128 m 71 _ [] _
        refine XS.iload X128.here hx rfl (hb hby d1_71) rfl ?_
        show own_S p e below T128 m 73 _ [(.int 1)] _
        refine XS.aloadN X128.here hx rfl (hb hby d1_73) rfl rfl ?_
        show own_S p e below T128 m 74 _ [(.ref r0), (.int 1)] _
        refine X128.arraylength hx (by rw [e128]; exact Ar137.1) (State.isArrayOf_alike hZ.alike Ar137.2.1) (g := (mkF m 74 #[oR r0, oR r1, oI 2, oR b101, oI 0, oI 1, oI w1ft_, oI 1] [(.ref r0), (.int 1)])) rfl rfl (hb hby d1_74) _ ?_
        rw [len_of Sz137 Nz137]
        show own_S p e below T128 m 75 _ [(.int 3), (.int 1)] _
        refine XS.icmpNo X128.here hx rfl (hb hby d1_75) rfl (tlt (by decide : (1 : Int32) < (3 : Int32))).2.1 ?_
        show own_S p e below T128 m 78 _ [] _
        refine XS.aloadN X128.here hx rfl (hb hby d1_78) rfl rfl ?_
        show own_S p e below T128 m 79 _ [(.ref b101)] _
        refine XS.aloadN X128.here hx rfl (hb hby d1_79) rfl rfl ?_
        show own_S p e below T128 m 80 #[oR r0, oR r1, oI 2, oR b101, oI 0, oI 1, oI w1ft_, oI 1] [(.ref r0), (.ref b101)] _
        refine XS.iload X128.here hx rfl (hb hby d1_80) rfl ?_
        show own_S p e below T128 m 82 _ [(.int 1), (.ref r0), (.ref b101)] _
        refine X128.iaload hx (j := (1 : Int32)) (v := (.int ma1)) (by rw [e128]; exact Ar137.1) (State.isArrayOf_alike hZ.alike Ar137.2.1) Ar137.2.2 hin142 hat142 (g := (mkF m 82 #[oR r0, oR r1, oI 2, oR b101, oI 0, oI 1, oI w1ft_, oI 1] [(.int 1), (.ref r0), (.ref b101)])) rfl rfl (hb hby d1_82) _ ?_
        show own_S p e below T128 m 83 _ [(.int ma1), (.ref b101)] _
        refine X128.iaload hx (j := ma1) (v := (.int (own_at cc20 cc21 cc22 ma1))) (by rw [e128]; exact Ar131.1) (State.isArrayOf_alike hZ.alike Ar131.2.1) Ar131.2.2 hin143 hat143 (g := (mkF m 83 #[oR r0, oR r1, oI 2, oR b101, oI 0, oI 1, oI w1ft_, oI 1] [(.int ma1), (.ref b101)])) rfl rfl (hb hby d1_83) _ ?_
        show own_S p e below T128 m 84 _ [(.int (own_at cc20 cc21 cc22 ma1))] _
        refine XS.iconst X128.here hx rfl (hb hby d1_84) ?_
        exact kt
      have pre149 : ∀ t, Steps p.tables e below (T128.setTop (mkF m 109 #[oR r0, oR r1, oI 2, oR b101, oI 0, oI 1, oI w2ft_, oI 1] [])) t → Steps p.tables e below (s₁.setTop (mkF m 0 #[oR r0, oR r1, oI 2, oU, oU, oU, oU, oU] [])) t := by
        intro t kt
        refine pre144 _ ?_
        show own_S p e below T128 m 85 #[oR r0, oR r1, oI 2, oR b101, oI 0, oI 1, oI w1ft_, oI 1] [(.int 1), (.int (own_at cc20 cc21 cc22 ma1))] _
        by_cases hj : (1 : Int32) < (own_at cc20 cc21 cc22 ma1)
        · skip
          refine XS.icmpNo X128.here hx rfl (hb hby d1_85) rfl (tlt (hj : (1 : Int32) < (own_at cc20 cc21 cc22 ma1))).2.2.2 ?_
          show own_S p e below T128 m 88 #[oR r0, oR r1, oI 2, oR b101, oI 0, oI 1, oI w1ft_, oI 1] [] _
          refine XS.iload X128.here hx rfl (hb hby d1_88) rfl ?_
          show own_S p e below T128 m 90 _ [(.int w1ft_)] _
          by_cases hn : w1ft_ < (0 : Int32)
          · skip
            refine XS.ifYes X128.here hx rfl (pc0 := 90) (pc' := 105) rfl (hb hby d1_90) rfl ((if0 _ _).trans (tlt (hn : w1ft_ < (0 : Int32))).1) (by decide) (by decide) ?_
            show own_S p e below T128 m 105 #[oR r0, oR r1, oI 2, oR b101, oI 0, oI 1, oI w1ft_, oI 1] [] _
            refine XS.iload X128.here hx rfl (hb hby d1_105) rfl ?_
            show own_S p e below T128 m 107 _ [(.int 1)] _
            refine XS.istore X128.here hx rfl (hb hby d1_107) rfl (l' := #[oR r0, oR r1, oI 2, oR b101, oI 0, oI 1, oI 1, oI 1]) rfl ?_
            rw [(hw2ft_.trans (own_w2TT hj hn) : w2ft_ = (1 : Int32))] at kt
            exact kt
          · skip
            have Fc145 := ((((V_r1.ext E101).other W110 (Nat.ne_of_lt (Nat.lt_of_lt_of_le V_r1.lt (Nat.le_of_eq g101.symm)))).other W119 (Nat.ne_of_lt (Nat.lt_of_lt_of_le V_r1.lt (Nat.le_of_eq g101.symm)))).other W128 (Nat.ne_of_lt (Nat.lt_of_lt_of_le V_r1.lt (Nat.le_of_eq g101.symm))))
            obtain ⟨cl146, Ar146, qk146, Sz146, Nz146, Hh146, Gg146⟩ := id Fc145
            have hin147 : ¬ ((1 : Int32) < 0 ∨ cl146.slots.size ≤ ((1 : Int32)).toNatClampNeg) := inb_of Sz146 ⟨by decide, by decide⟩
            have hat147 : cl146.slots[((1 : Int32)).toNatClampNeg]? = some (.double f1) := Has.at Hh146 hin147 rfl
            have hin148 : ¬ (w1ft_ < 0 ∨ cl146.slots.size ≤ (w1ft_).toNatClampNeg) := inb_of Sz146 (own_b00 (own_w1z hw1ft_ hn))
            have hat148 : cl146.slots[(w1ft_).toNatClampNeg]? = some (.double f0) := Has.at Hh146 hin148 (own_gd0 (own_w1z hw1ft_ hn))
            refine XS.ifNo X128.here hx rfl (hb hby d1_90) rfl ((if0 _ _).trans (flt (hn : ¬ (w1ft_ < (0 : Int32)))).1) ?_
            show own_S p e below T128 m 93 #[oR r0, oR r1, oI 2, oR b101, oI 0, oI 1, oI w1ft_, oI 1] [] _
            refine XS.aloadN X128.here hx rfl (hb hby d1_93) rfl rfl ?_
            show own_S p e below T128 m 94 _ [(.ref r1)] _
            refine XS.iload X128.here hx rfl (hb hby d1_94) rfl ?_
            show own_S p e below T128 m 96 _ [(.int 1), (.ref r1)] _
            refine X128.daload hx (j := (1 : Int32)) (v := (.double f1)) (by rw [e128]; exact Ar146.1) (State.isArrayOf_alike hZ.alike Ar146.2.1) Ar146.2.2 hin147 hat147 (g := (mkF m 96 #[oR r0, oR r1, oI 2, oR b101, oI 0, oI 1, oI w1ft_, oI 1] [(.int 1), (.ref r1)])) rfl rfl (hb hby d1_96) _ ?_
            show own_S p e below T128 m 97 _ [(.double f1)] _
            refine XS.aloadN X128.here hx rfl (hb hby d1_97) rfl rfl ?_
            show own_S p e below T128 m 98 _ [(.ref r1), (.double f1)] _
            refine XS.iload X128.here hx rfl (hb hby d1_98) rfl ?_
            show own_S p e below T128 m 100 _ [(.int w1ft_), (.ref r1), (.double f1)] _
            refine X128.daload hx (j := w1ft_) (v := (.double f0)) (by rw [e128]; exact Ar146.1) (State.isArrayOf_alike hZ.alike Ar146.2.1) Ar146.2.2 hin148 hat148 (g := (mkF m 100 #[oR r0, oR r1, oI 2, oR b101, oI 0, oI 1, oI w1ft_, oI 1] [(.int w1ft_), (.ref r1), (.double f1)])) rfl rfl (hb hby d1_100) _ ?_
            show own_S p e below T128 m 101 _ [(.double f0), (.double f1)] _
            refine XS.dcmpS X128.here hx rfl (v := (cmpValue (FP.dcmp f1 f0) .g)) (hb hby d1_101) rfl rfl ?_
            show own_S p e below T128 m 102 #[oR r0, oR r1, oI 2, oR b101, oI 0, oI 1, oI w1ft_, oI 1] [(.int (cmpValue (FP.dcmp f1 f0) .g))] _
            by_cases hd : (cmpValue (FP.dcmp f1 f0) .g) < (0 : Int32)
            · skip
              refine XS.ifNo X128.here hx rfl (hb hby d1_102) rfl ((if0 _ _).trans (tlt (hd : (cmpValue (FP.dcmp f1 f0) .g) < (0 : Int32))).2.1) ?_
              show own_S p e below T128 m 105 #[oR r0, oR r1, oI 2, oR b101, oI 0, oI 1, oI w1ft_, oI 1] [] _
              refine XS.iload X128.here hx rfl (hb hby d1_105) rfl ?_
              show own_S p e below T128 m 107 _ [(.int 1)] _
              refine XS.istore X128.here hx rfl (hb hby d1_107) rfl (l' := #[oR r0, oR r1, oI 2, oR b101, oI 0, oI 1, oI 1, oI 1]) rfl ?_
              rw [(hw2ft_.trans (own_w2TFT hj hn (cx.mp hd)) : w2ft_ = (1 : Int32))] at kt
              exact kt
            · skip
              refine XS.ifYes X128.here hx rfl (pc0 := 102) (pc' := 109) rfl (hb hby d1_102) rfl ((if0 _ _).trans (flt (hd : ¬ ((cmpValue (FP.dcmp f1 f0) .g) < (0 : Int32)))).2.1) (by decide) (by decide) ?_
              rw [(hw2ft_.trans (own_w2TFF hj hn (fun q => hd (cx.mpr q))) : w2ft_ = w1ft_)] at kt
              exact kt
        · skip
          refine XS.icmpYes X128.here hx rfl (pc0 := 85) (pc' := 109) rfl (hb hby d1_85) rfl (flt (hj : ¬ ((1 : Int32) < (own_at cc20 cc21 cc22 ma1)))).2.2.2 (by decide) (by decide) ?_
          rw [(hw2ft_.trans (own_w2F hj) : w2ft_ = w1ft_)] at kt
          exact kt
      have hin150 : ¬ ((2 : Int32) < 0 ∨ cl137.slots.size ≤ ((2 : Int32)).toNatClampNeg) := inb_of Sz137 ⟨by decide, by decide⟩
      have hat150 : cl137.slots[((2 : Int32)).toNatClampNeg]? = some (.int ma2) := Has.at Hh137 hin150 rfl
      have hin151 : ¬ (ma2 < 0 ∨ cl131.slots.size ≤ (ma2).toNatClampNeg) := inb_of Sz131 (own_b2 ra2)
      have hat151 : cl131.slots[(ma2).toNatClampNeg]? = some (.int (own_at cc20 cc21 cc22 ma2)) := Has.at Hh131 hin151 (own_g2 ra2)
      have pre152 : ∀ t, Steps p.tables e below (T128.setTop (mkF m 85 #[oR r0, oR r1, oI 2, oR b101, oI 0, oI 1, oI w2ft_, oI 2] [(.int 1), (.int (own_at cc20 cc21 cc22 ma2))])) t → Steps p.tables e below (s₁.setTop (mkF m 0 #[oR r0, oR r1, oI 2, oU, oU, oU, oU, oU] [])) t := by
        intro t kt
        refine pre149 _ ?_
        show own_S p e below T128 m 109 #[oR r0, oR r1, oI 2, oR b101, oI 0, oI 1, oI w2ft_, oI 1] [] _
        refine XS.iinc X128.here hx rfl (hb hby d1_109) rfl (l' := #[oR r0, oR r1, oI 2, oR b101, oI 0, oI 1, oI w2ft_, oI 2]) rfl ?_
        show own_S p e below T128 m 112 #[oR r0, oR r1, oI 2, oR b101, oI 0, oI 1, oI w2ft_, oI 2] [] _
        refine XS.goto X128.here hx rfl (pc0 := 112) (pc' := 71) rfl (hb hby d1_112) (by decide) (by decide) ?_
        show own_S p e below T128 m 71 _ [] _
        refine XS.iload X128.here hx rfl (hb hby d1_71) rfl ?_
        show own_S p e below T128 m 73 _ [(.int 2)] _
        refine XS.aloadN X128.here hx rfl (hb hby d1_73) rfl rfl ?_
        show own_S p e below T128 m 74 _ [(.ref r0), (.int 2)] _
        refine X128.arraylength hx (by rw [e128]; exact Ar137.1) (State.isArrayOf_alike hZ.alike Ar137.2.1) (g := (mkF m 74 #[oR r0, oR r1, oI 2, oR b101, oI 0, oI 1, oI w2ft_, oI 2] [(.ref r0), (.int 2)])) rfl rfl (hb hby d1_74) _ ?_
        rw [len_of Sz137 Nz137]
        show own_S p e below T128 m 75 _ [(.int 3), (.int 2)] _
        refine XS.icmpNo X128.here hx rfl (hb hby d1_75) rfl (tlt (by decide : (2 : Int32) < (3 : Int32))).2.1 ?_
        show own_S p e below T128 m 78 _ [] _
        refine XS.aloadN X128.here hx rfl (hb hby d1_78) rfl rfl ?_
        show own_S p e below T128 m 79 _ [(.ref b101)] _
        refine XS.aloadN X128.here hx rfl (hb hby d1_79) rfl rfl ?_
        show own_S p e below T128 m 80 #[oR r0, oR r1, oI 2, oR b101, oI 0, oI 1, oI w2ft_, oI 2] [(.ref r0), (.ref b101)] _
        refine XS.iload X128.here hx rfl (hb hby d1_80) rfl ?_
        show own_S p e below T128 m 82 _ [(.int 2), (.ref r0), (.ref b101)] _
        refine X128.iaload hx (j := (2 : Int32)) (v := (.int ma2)) (by rw [e128]; exact Ar137.1) (State.isArrayOf_alike hZ.alike Ar137.2.1) Ar137.2.2 hin150 hat150 (g := (mkF m 82 #[oR r0, oR r1, oI 2, oR b101, oI 0, oI 1, oI w2ft_, oI 2] [(.int 2), (.ref r0), (.ref b101)])) rfl rfl (hb hby d1_82) _ ?_
        show own_S p e below T128 m 83 _ [(.int ma2), (.ref b101)] _
        refine X128.iaload hx (j := ma2) (v := (.int (own_at cc20 cc21 cc22 ma2))) (by rw [e128]; exact Ar131.1) (State.isArrayOf_alike hZ.alike Ar131.2.1) Ar131.2.2 hin151 hat151 (g := (mkF m 83 #[oR r0, oR r1, oI 2, oR b101, oI 0, oI 1, oI w2ft_, oI 2] [(.int ma2), (.ref b101)])) rfl rfl (hb hby d1_83) _ ?_
        show own_S p e below T128 m 84 _ [(.int (own_at cc20 cc21 cc22 ma2))] _
        refine XS.iconst X128.here hx rfl (hb hby d1_84) ?_
        exact kt
      have pre157 : ∀ t, Steps p.tables e below (T128.setTop (mkF m 109 #[oR r0, oR r1, oI 2, oR b101, oI 0, oI 1, oI w3ft_, oI 2] [])) t → Steps p.tables e below (s₁.setTop (mkF m 0 #[oR r0, oR r1, oI 2, oU, oU, oU, oU, oU] [])) t := by
        intro t kt
        refine pre152 _ ?_
        show own_S p e below T128 m 85 #[oR r0, oR r1, oI 2, oR b101, oI 0, oI 1, oI w2ft_, oI 2] [(.int 1), (.int (own_at cc20 cc21 cc22 ma2))] _
        by_cases hj : (1 : Int32) < (own_at cc20 cc21 cc22 ma2)
        · skip
          refine XS.icmpNo X128.here hx rfl (hb hby d1_85) rfl (tlt (hj : (1 : Int32) < (own_at cc20 cc21 cc22 ma2))).2.2.2 ?_
          show own_S p e below T128 m 88 #[oR r0, oR r1, oI 2, oR b101, oI 0, oI 1, oI w2ft_, oI 2] [] _
          refine XS.iload X128.here hx rfl (hb hby d1_88) rfl ?_
          show own_S p e below T128 m 90 _ [(.int w2ft_)] _
          by_cases hn : w2ft_ < (0 : Int32)
          · skip
            refine XS.ifYes X128.here hx rfl (pc0 := 90) (pc' := 105) rfl (hb hby d1_90) rfl ((if0 _ _).trans (tlt (hn : w2ft_ < (0 : Int32))).1) (by decide) (by decide) ?_
            show own_S p e below T128 m 105 #[oR r0, oR r1, oI 2, oR b101, oI 0, oI 1, oI w2ft_, oI 2] [] _
            refine XS.iload X128.here hx rfl (hb hby d1_105) rfl ?_
            show own_S p e below T128 m 107 _ [(.int 2)] _
            refine XS.istore X128.here hx rfl (hb hby d1_107) rfl (l' := #[oR r0, oR r1, oI 2, oR b101, oI 0, oI 1, oI 2, oI 2]) rfl ?_
            rw [(hw3ft_.trans (own_w3TT hj hn) : w3ft_ = (2 : Int32))] at kt
            exact kt
          · skip
            have Fc153 := ((((V_r1.ext E101).other W110 (Nat.ne_of_lt (Nat.lt_of_lt_of_le V_r1.lt (Nat.le_of_eq g101.symm)))).other W119 (Nat.ne_of_lt (Nat.lt_of_lt_of_le V_r1.lt (Nat.le_of_eq g101.symm)))).other W128 (Nat.ne_of_lt (Nat.lt_of_lt_of_le V_r1.lt (Nat.le_of_eq g101.symm))))
            obtain ⟨cl154, Ar154, qk154, Sz154, Nz154, Hh154, Gg154⟩ := id Fc153
            have hin155 : ¬ ((2 : Int32) < 0 ∨ cl154.slots.size ≤ ((2 : Int32)).toNatClampNeg) := inb_of Sz154 ⟨by decide, by decide⟩
            have hat155 : cl154.slots[((2 : Int32)).toNatClampNeg]? = some (.double f2) := Has.at Hh154 hin155 rfl
            have hin156 : ¬ (w2ft_ < 0 ∨ cl154.slots.size ≤ (w2ft_).toNatClampNeg) := inb_of Sz154 (own_b01 (own_w2z hw1ft_ hw2ft_ hn))
            have hat156 : cl154.slots[(w2ft_).toNatClampNeg]? = some (.double (own_atD f0 f1 w2ft_)) := Has.at Hh154 hin156 (own_gd (own_w2z hw1ft_ hw2ft_ hn))
            refine XS.ifNo X128.here hx rfl (hb hby d1_90) rfl ((if0 _ _).trans (flt (hn : ¬ (w2ft_ < (0 : Int32)))).1) ?_
            show own_S p e below T128 m 93 #[oR r0, oR r1, oI 2, oR b101, oI 0, oI 1, oI w2ft_, oI 2] [] _
            refine XS.aloadN X128.here hx rfl (hb hby d1_93) rfl rfl ?_
            show own_S p e below T128 m 94 _ [(.ref r1)] _
            refine XS.iload X128.here hx rfl (hb hby d1_94) rfl ?_
            show own_S p e below T128 m 96 _ [(.int 2), (.ref r1)] _
            refine X128.daload hx (j := (2 : Int32)) (v := (.double f2)) (by rw [e128]; exact Ar154.1) (State.isArrayOf_alike hZ.alike Ar154.2.1) Ar154.2.2 hin155 hat155 (g := (mkF m 96 #[oR r0, oR r1, oI 2, oR b101, oI 0, oI 1, oI w2ft_, oI 2] [(.int 2), (.ref r1)])) rfl rfl (hb hby d1_96) _ ?_
            show own_S p e below T128 m 97 _ [(.double f2)] _
            refine XS.aloadN X128.here hx rfl (hb hby d1_97) rfl rfl ?_
            show own_S p e below T128 m 98 _ [(.ref r1), (.double f2)] _
            refine XS.iload X128.here hx rfl (hb hby d1_98) rfl ?_
            show own_S p e below T128 m 100 _ [(.int w2ft_), (.ref r1), (.double f2)] _
            refine X128.daload hx (j := w2ft_) (v := (.double (own_atD f0 f1 w2ft_))) (by rw [e128]; exact Ar154.1) (State.isArrayOf_alike hZ.alike Ar154.2.1) Ar154.2.2 hin156 hat156 (g := (mkF m 100 #[oR r0, oR r1, oI 2, oR b101, oI 0, oI 1, oI w2ft_, oI 2] [(.int w2ft_), (.ref r1), (.double f2)])) rfl rfl (hb hby d1_100) _ ?_
            show own_S p e below T128 m 101 _ [(.double (own_atD f0 f1 w2ft_)), (.double f2)] _
            refine XS.dcmpS X128.here hx rfl (v := (cmpValue (FP.dcmp f2 (own_atD f0 f1 w2ft_)) .g)) (hb hby d1_101) rfl rfl ?_
            show own_S p e below T128 m 102 #[oR r0, oR r1, oI 2, oR b101, oI 0, oI 1, oI w2ft_, oI 2] [(.int (cmpValue (FP.dcmp f2 (own_atD f0 f1 w2ft_)) .g))] _
            by_cases hd : (cmpValue (FP.dcmp f2 (own_atD f0 f1 w2ft_)) .g) < (0 : Int32)
            · skip
              refine XS.ifNo X128.here hx rfl (hb hby d1_102) rfl ((if0 _ _).trans (tlt (hd : (cmpValue (FP.dcmp f2 (own_atD f0 f1 w2ft_)) .g) < (0 : Int32))).2.1) ?_
              show own_S p e below T128 m 105 #[oR r0, oR r1, oI 2, oR b101, oI 0, oI 1, oI w2ft_, oI 2] [] _
              refine XS.iload X128.here hx rfl (hb hby d1_105) rfl ?_
              show own_S p e below T128 m 107 _ [(.int 2)] _
              refine XS.istore X128.here hx rfl (hb hby d1_107) rfl (l' := #[oR r0, oR r1, oI 2, oR b101, oI 0, oI 1, oI 2, oI 2]) rfl ?_
              rw [(hw3ft_.trans (own_w3TFT hj hn ((own_cyz (own_w2z hw1ft_ hw2ft_ hn) cy cz).mp hd)) : w3ft_ = (2 : Int32))] at kt
              exact kt
            · skip
              refine XS.ifYes X128.here hx rfl (pc0 := 102) (pc' := 109) rfl (hb hby d1_102) rfl ((if0 _ _).trans (flt (hd : ¬ ((cmpValue (FP.dcmp f2 (own_atD f0 f1 w2ft_)) .g) < (0 : Int32)))).2.1) (by decide) (by decide) ?_
              rw [(hw3ft_.trans (own_w3TFF hj hn (fun q => hd ((own_cyz (own_w2z hw1ft_ hw2ft_ hn) cy cz).mpr q))) : w3ft_ = w2ft_)] at kt
              exact kt
        · skip
          refine XS.icmpYes X128.here hx rfl (pc0 := 85) (pc' := 109) rfl (hb hby d1_85) rfl (flt (hj : ¬ ((1 : Int32) < (own_at cc20 cc21 cc22 ma2)))).2.2.2 (by decide) (by decide) ?_
          rw [(hw3ft_.trans (own_w3F hj) : w3ft_ = w2ft_)] at kt
          exact kt
      have hin158 : ¬ (w3ft_ < 0 ∨ cl137.slots.size ≤ (w3ft_).toNatClampNeg) := inb_of Sz137 (own_b3 hWw3ft_)
      have hat158 : cl137.slots[(w3ft_).toNatClampNeg]? = some (.int mwft_) := Has.at Hh137 hin158 (by rw [hmwft_]; exact own_g3 hWw3ft_)
      have hin159 : ¬ (mwft_ < 0 ∨ cl131.slots.size ≤ (mwft_).toNatClampNeg) := inb_of Sz131 (own_b2 hRmwft_)
      have hat159 : cl131.slots[(mwft_).toNatClampNeg]? = some (.int (own_at cc20 cc21 cc22 mwft_)) := Has.at Hh131 hin159 (own_g2 hRmwft_)
      have hin160 : ¬ (mwft_ < 0 ∨ cl131.slots.size ≤ (mwft_).toNatClampNeg) := inb_of Sz131 (own_b2 hRmwft_)
      obtain ⟨T161, h161, X161, e161, W161, st161⟩ := stI X128 hx hZ e128 Ar131 (j := mwft_) hin160 (g := (mkF m 124 #[oR r0, oR r1, oI 2, oR b101, oI 0, oI 1, oI w3ft_, oI 3] [(.int ((own_at cc20 cc21 cc22 mwft_) - (1 : Int32))), (.int mwft_), (.ref b101)])) rfl rfl (hb hby d1_124)
      have Va161 := Arv.set Ar131 qk131 Sz131 Nz131 Hh131 Gg131 rfl W161 (mwft_).toNatClampNeg rfl (own_l2 hRmwft_)
      have Vs161 : Arv Z h161 b101 k101 .int (2 : Int32) [(.int d0ft_), (.int d1ft_)] (.int 0) := by rw [← (by rw [hd0ft_, hd1ft_]; exact own_s2 hRmwft_ : ([(.int cc20), (.int cc21)] : List Value).set (mwft_).toNatClampNeg (.int ((own_at cc20 cc21 cc22 mwft_) - (1 : Int32))) = [(.int d0ft_), (.int d1ft_)])]; exact Va161
      have N161 := Fr.snoc X161 N128 g_b101
      have ZZ162 : n0 ≤ h161.size := Nat.le_trans ZZ129 (Nat.le_of_eq W161.size.symm)
      have KK163 : Keep h0 h161 [r0] := KK130.wr W161 (Or.inr sz_b101)
      obtain ⟨cl164, Ar164, qk164, Sz164, Nz164, Hh164, Gg164⟩ := id Vs161
      have hin165 : ¬ ((1 : Int32) < 0 ∨ cl164.slots.size ≤ ((1 : Int32)).toNatClampNeg) := inb_of Sz164 ⟨by decide, by decide⟩
      have hat165 : cl164.slots[((1 : Int32)).toNatClampNeg]? = some (.int d1ft_) := Has.at Hh164 hin165 rfl
      have hin166 : ¬ ((1 : Int32) < 0 ∨ cl164.slots.size ≤ ((1 : Int32)).toNatClampNeg) := inb_of Sz164 ⟨by decide, by decide⟩
      obtain ⟨T167, h167, X167, e167, W167, st167⟩ := stI X161 hx hZ e161 Ar164 (j := (1 : Int32)) hin166 (g := (mkF m 132 #[oR r0, oR r1, oI 2, oR b101, oI 0, oI 1, oI w3ft_, oI 3] [(.int (d1ft_ + (1 : Int32))), (.int 1), (.ref b101)])) rfl rfl (hb hby d1_132)
      have Va167 := Arv.set Ar164 qk164 Sz164 Nz164 Hh164 Gg164 rfl W167 1 rfl (Nat.le_of_ble_eq_true rfl)
      have N167 := Fr.snoc X167 N161 g_b101
      have ZZ168 : n0 ≤ h167.size := Nat.le_trans ZZ162 (Nat.le_of_eq W167.size.symm)
      have KK169 : Keep h0 h167 [r0] := KK163.wr W167 (Or.inr sz_b101)
      have Fc170 := ((Fc136.other W161 (Nat.ne_of_lt (Nat.lt_of_lt_of_le V_r0.lt (Nat.le_of_eq g101.symm)))).other W167 (Nat.ne_of_lt (Nat.lt_of_lt_of_le V_r0.lt (Nat.le_of_eq g101.symm))))
      obtain ⟨cl171, Ar171, qk171, Sz171, Nz171, Hh171, Gg171⟩ := id Fc170
      have hin172 : ¬ (w3ft_ < 0 ∨ cl171.slots.size ≤ (w3ft_).toNatClampNeg) := inb_of Sz171 (own_b3 hWw3ft_)
      obtain ⟨T173, h173, X173, e173, W173, st173⟩ := stI X167 hx hZ e167 Ar171 (j := w3ft_) hin172 (g := (mkF m 138 #[oR r0, oR r1, oI 2, oR b101, oI 0, oI 1, oI w3ft_, oI 3] [(.int 1), (.int w3ft_), (.ref r0)])) rfl rfl (hb hby d1_138)
      have Va173 := Arv.set Ar171 qk171 Sz171 Nz171 Hh171 Gg171 rfl W173 (w3ft_).toNatClampNeg rfl (own_l3 hWw3ft_)
      have Vs173 : Arv Z h173 r0 ka .int (3 : Int32) [(.int n0ft_), (.int n1ft_), (.int n2ft_)] (.int 0) := by rw [← (by rw [hn0ft_, hn1ft_, hn2ft_]; exact own_s3 hWw3ft_ : ([(.int ma0), (.int ma1), (.int ma2)] : List Value).set (w3ft_).toNatClampNeg (.int 1) = [(.int n0ft_), (.int n1ft_), (.int n2ft_)])]; exact Va173
      have N173 := Fr.snoc X173 N167 g_r0
      have ZZ174 : n0 ≤ h173.size := Nat.le_trans ZZ168 (Nat.le_of_eq W173.size.symm)
      have KK175 : Keep h0 h173 [r0] := KK169.wr W173 (Or.inl (List.mem_of_getElem? (i := 0) rfl))
      obtain ⟨fs, hr, hrun, hended, hW, hsame⟩ := X173.leave (v := some (.int 1)) (fun h => by rw [Bd.returns] at h; cases h)
      refine ⟨_, _, pre0 _ (pre157 _ ?_), hrun, hended, _, _, rfl, ?_, ⟨_, rfl⟩, hW, hsame.mono (by decide) (by decide)⟩
      · show own_S p e below T128 m 109 #[oR r0, oR r1, oI 2, oR b101, oI 0, oI 1, oI w3ft_, oI 2] [] _
        refine XS.iinc X128.here hx rfl (hb hby d1_109) rfl (l' := #[oR r0, oR r1, oI 2, oR b101, oI 0, oI 1, oI w3ft_, oI 3]) rfl ?_
        show own_S p e below T128 m 112 #[oR r0, oR r1, oI 2, oR b101, oI 0, oI 1, oI w3ft_, oI 3] [] _
        refine XS.goto X128.here hx rfl (pc0 := 112) (pc' := 71) rfl (hb hby d1_112) (by decide) (by decide) ?_
        show own_S p e below T128 m 71 _ [] _
        refine XS.iload X128.here hx rfl (hb hby d1_71) rfl ?_
        show own_S p e below T128 m 73 _ [(.int 3)] _
        refine XS.aloadN X128.here hx rfl (hb hby d1_73) rfl rfl ?_
        show own_S p e below T128 m 74 _ [(.ref r0), (.int 3)] _
        refine X128.arraylength hx (by rw [e128]; exact Ar137.1) (State.isArrayOf_alike hZ.alike Ar137.2.1) (g := (mkF m 74 #[oR r0, oR r1, oI 2, oR b101, oI 0, oI 1, oI w3ft_, oI 3] [(.ref r0), (.int 3)])) rfl rfl (hb hby d1_74) _ ?_
        rw [len_of Sz137 Nz137]
        show own_S p e below T128 m 75 _ [(.int 3), (.int 3)] _
        refine XS.icmpYes X128.here hx rfl (pc0 := 75) (pc' := 115) rfl (hb hby d1_75) rfl (flt (by decide : ¬ ((3 : Int32) < (3 : Int32)))).2.1 (by decide) (by decide) ?_
        show own_S p e below T128 m 115 _ [] _
        refine XS.aloadN X128.here hx rfl (hb hby d1_115) rfl rfl ?_
        show own_S p e below T128 m 116 _ [(.ref b101)] _
        refine XS.aloadN X128.here hx rfl (hb hby d1_116) rfl rfl ?_
        show own_S p e below T128 m 117 #[oR r0, oR r1, oI 2, oR b101, oI 0, oI 1, oI w3ft_, oI 3] [(.ref r0), (.ref b101)] _
        refine XS.iload X128.here hx rfl (hb hby d1_117) rfl ?_
        show own_S p e below T128 m 119 _ [(.int w3ft_), (.ref r0), (.ref b101)] _
        refine X128.iaload hx (j := w3ft_) (v := (.int mwft_)) (by rw [e128]; exact Ar137.1) (State.isArrayOf_alike hZ.alike Ar137.2.1) Ar137.2.2 hin158 hat158 (g := (mkF m 119 #[oR r0, oR r1, oI 2, oR b101, oI 0, oI 1, oI w3ft_, oI 3] [(.int w3ft_), (.ref r0), (.ref b101)])) rfl rfl (hb hby d1_119) _ ?_
        show own_S p e below T128 m 120 _ [(.int mwft_), (.ref b101)] _
        jvm_step X128.here [X128.here.top, hx, (hb hby d1_120), Value.category]
        show own_S p e below T128 m 121 #[oR r0, oR r1, oI 2, oR b101, oI 0, oI 1, oI w3ft_, oI 3] [(.int mwft_), (.ref b101), (.int mwft_), (.ref b101)] _
        refine X128.iaload hx (j := mwft_) (v := (.int (own_at cc20 cc21 cc22 mwft_))) (by rw [e128]; exact Ar131.1) (State.isArrayOf_alike hZ.alike Ar131.2.1) Ar131.2.2 hin159 hat159 (g := (mkF m 121 #[oR r0, oR r1, oI 2, oR b101, oI 0, oI 1, oI w3ft_, oI 3] [(.int mwft_), (.ref b101), (.int mwft_), (.ref b101)])) rfl rfl (hb hby d1_121) _ ?_
        show own_S p e below T128 m 122 _ [(.int (own_at cc20 cc21 cc22 mwft_)), (.int mwft_), (.ref b101)] _
        refine XS.iconst X128.here hx rfl (hb hby d1_122) ?_
        show own_S p e below T128 m 123 _ [(.int 1), (.int (own_at cc20 cc21 cc22 mwft_)), (.int mwft_), (.ref b101)] _
        refine XS.isub X128.here hx rfl (hb hby d1_123) rfl ?_
        show own_S p e below T128 m 124 _ [(.int ((own_at cc20 cc21 cc22 mwft_) - (1 : Int32))), (.int mwft_), (.ref b101)] _
        refine st161 _ ?_
        show own_S p e below T161 m 125 _ [] _
        refine XS.aloadN X161.here hx rfl (hb hby d1_125) rfl rfl ?_
        show own_S p e below T161 m 126 _ [(.ref b101)] _
        refine XS.iload X161.here hx rfl (hb hby d1_126) rfl ?_
        show own_S p e below T161 m 128 _ [(.int 1), (.ref b101)] _
        jvm_step X161.here [X161.here.top, hx, (hb hby d1_128), Value.category]
        show own_S p e below T161 m 129 #[oR r0, oR r1, oI 2, oR b101, oI 0, oI 1, oI w3ft_, oI 3] [(.int 1), (.ref b101), (.int 1), (.ref b101)] _
        refine X161.iaload hx (j := (1 : Int32)) (v := (.int d1ft_)) (by rw [e161]; exact Ar164.1) (State.isArrayOf_alike hZ.alike Ar164.2.1) Ar164.2.2 hin165 hat165 (g := (mkF m 129 #[oR r0, oR r1, oI 2, oR b101, oI 0, oI 1, oI w3ft_, oI 3] [(.int 1), (.ref b101), (.int 1), (.ref b101)])) rfl rfl (hb hby d1_129) _ ?_
        show own_S p e below T161 m 130 _ [(.int d1ft_), (.int 1), (.ref b101)] _
        refine XS.iconst X161.here hx rfl (hb hby d1_130) ?_
        show own_S p e below T161 m 131 _ [(.int 1), (.int d1ft_), (.int 1), (.ref b101)] _
        refine XS.iadd X161.here hx rfl (hb hby d1_131) rfl ?_
        show own_S p e below T161 m 132 _ [(.int (d1ft_ + (1 : Int32))), (.int 1), (.ref b101)] _
        refine st167 _ ?_
        show own_S p e below T167 m 133 _ [] _
        refine XS.aloadN X167.here hx rfl (hb hby d1_133) rfl rfl ?_
        show own_S p e below T167 m 134 _ [(.ref r0)] _
        refine XS.iload X167.here hx rfl (hb hby d1_134) rfl ?_
        show own_S p e below T167 m 136 _ [(.int w3ft_), (.ref r0)] _
        refine XS.iload X167.here hx rfl (hb hby d1_136) rfl ?_
        show own_S p e below T167 m 138 #[oR r0, oR r1, oI 2, oR b101, oI 0, oI 1, oI w3ft_, oI 3] [(.int 1), (.int w3ft_), (.ref r0)] _
        refine st173 _ ?_
        show own_S p e below T173 m 139 _ [] _
        refine XS.iconst X173.here hx rfl (hb hby d1_139) ?_
        show own_S p e below T173 m 140 _ [(.int 1)] _
        refine XS.istore X173.here hx rfl (hb hby d1_140) rfl (l' := #[oR r0, oR r1, oI 2, oR b101, oI 1, oI 1, oI w3ft_, oI 3]) rfl ?_
        show own_S p e below T173 m 142 #[oR r0, oR r1, oI 2, oR b101, oI 1, oI 1, oI w3ft_, oI 3] [] _
        refine XS.iinc X173.here hx rfl (hb hby d1_142) rfl (l' := #[oR r0, oR r1, oI 2, oR b101, oI 1, oI 2, oI w3ft_, oI 3]) rfl ?_
        show own_S p e below T173 m 145 #[oR r0, oR r1, oI 2, oR b101, oI 1, oI 2, oI w3ft_, oI 3] [] _
        refine XS.goto X173.here hx rfl (pc0 := 145) (pc' := 49) rfl (hb hby d1_145) (by decide) (by decide) ?_
        show own_S p e below T173 m 49 _ [] _
        refine XS.iload X173.here hx rfl (hb hby d1_49) rfl ?_
        show own_S p e below T173 m 51 _ [(.int 2)] _
        refine XS.iloadN X173.here hx rfl (hb hby d1_51) rfl ?_
        show own_S p e below T173 m 52 _ [(.int 2), (.int 2)] _
        refine XS.icmpYes X173.here hx rfl (pc0 := 52) (pc' := 148) rfl (hb hby d1_52) rfl (flt (by decide : ¬ ((2 : Int32) < (2 : Int32)))).2.1 (by decide) (by decide) ?_
        show own_S p e below T173 m 148 _ [] _
        refine XS.iload X173.here hx rfl (hb hby d1_148) rfl ?_
        show own_S p e below T173 m 150 _ [(.int 1)] _
        exact retN X173 hx (t := .boolean) Bd.returns (by simp) (hb hby d1_150) hr
      · show Qf2 Z r0 r1 ka kb ma0 ma1 ma2 f0 f1 f2 x y z h0 n0 _ T173.heap _
        rw [e173]
        exact ⟨n0ft_, n1ft_, n2ft_, (1 : Int32), rfl, N173, KK175, Vs173, (by rw [H2]; exact ⟨rfl, rfl, rfl, rfl⟩)⟩
  · skip
    obtain ⟨w1t_, hw1t_⟩ : ∃ zz, zz = own_w1 (own_at cc20 cc21 cc22 ma0) := ⟨_, rfl⟩
    obtain ⟨w2t_, hw2t_⟩ : ∃ zz, zz = own_w2 x (own_at cc20 cc21 cc22 ma1) w1t_ := ⟨_, rfl⟩
    obtain ⟨w3t_, hw3t_⟩ : ∃ zz, zz = own_w3 y z (own_at cc20 cc21 cc22 ma2) w2t_ := ⟨_, rfl⟩
    obtain ⟨mwt_, hmwt_⟩ : ∃ zz, zz = own_at ma0 ma1 ma2 w3t_ := ⟨_, rfl⟩
    obtain ⟨d0t_, hd0t_⟩ : ∃ zz, zz = own_p 0 mwt_ ((own_at cc20 cc21 cc22 mwt_) - (1 : Int32)) cc20 := ⟨_, rfl⟩
    obtain ⟨d1t_, hd1t_⟩ : ∃ zz, zz = own_p 1 mwt_ ((own_at cc20 cc21 cc22 mwt_) - (1 : Int32)) cc21 := ⟨_, rfl⟩
    obtain ⟨d2t_, hd2t_⟩ : ∃ zz, zz = own_p 2 mwt_ ((own_at cc20 cc21 cc22 mwt_) - (1 : Int32)) cc22 := ⟨_, rfl⟩
    obtain ⟨n0t_, hn0t_⟩ : ∃ zz, zz = own_p 0 w3t_ (0 : Int32) ma0 := ⟨_, rfl⟩
    obtain ⟨n1t_, hn1t_⟩ : ∃ zz, zz = own_p 1 w3t_ (0 : Int32) ma1 := ⟨_, rfl⟩
    obtain ⟨n2t_, hn2t_⟩ : ∃ zz, zz = own_p 2 w3t_ (0 : Int32) ma2 := ⟨_, rfl⟩
    have hWw3t_ : (w3t_ = 0 ∨ w3t_ = 1 ∨ w3t_ = 2) := by
      have q := own_L20 x y z ra0 ra1 ra2
      rw [H0, own_worstE hw1t_ hw2t_ hw3t_] at q
      exact q he0
    have hRmwt_ : (mwt_ = 0 ∨ mwt_ = 1) := by rw [hmwt_]; exact own_atr (P := fun i => (i = 0 ∨ i = 1)) ra0 ra1 ra2
    have hRn0t_ : (n0t_ = 0 ∨ n0t_ = 1) := by rw [hn0t_]; exact own_pr (P := fun i => (i = 0 ∨ i = 1)) (by decide) ra0
    have hRn1t_ : (n1t_ = 0 ∨ n1t_ = 1) := by rw [hn1t_]; exact own_pr (P := fun i => (i = 0 ∨ i = 1)) (by decide) ra1
    have hRn2t_ : (n2t_ = 0 ∨ n2t_ = 1) := by rw [hn2t_]; exact own_pr (P := fun i => (i = 0 ∨ i = 1)) (by decide) ra2
    have H1 : own_F1 x y z ma0 ma1 ma2 = (⟨(d0t_ + (1 : Int32)), d1t_, d2t_, n0t_, n1t_, n2t_, (1 : Int32)⟩ : own_St) := own_F1u H0 he0 hw1t_ hw2t_ hw3t_ hmwt_ hd0t_ hd1t_ hd2t_ hn0t_ hn1t_ hn2t_
    have Fc176 := (Fc122.other W128 (Nat.ne_of_lt (Nat.lt_of_lt_of_le V_r0.lt (Nat.le_of_eq g101.symm))))
    obtain ⟨cl177, Ar177, qk177, Sz177, Nz177, Hh177, Gg177⟩ := id Fc176
    have hin178 : ¬ ((0 : Int32) < 0 ∨ cl177.slots.size ≤ ((0 : Int32)).toNatClampNeg) := inb_of Sz177 ⟨by decide, by decide⟩
    have hat178 : cl177.slots[((0 : Int32)).toNatClampNeg]? = some (.int ma0) := Has.at Hh177 hin178 rfl
    have hin179 : ¬ (ma0 < 0 ∨ cl131.slots.size ≤ (ma0).toNatClampNeg) := inb_of Sz131 (own_b2 ra0)
    have hat179 : cl131.slots[(ma0).toNatClampNeg]? = some (.int (own_at cc20 cc21 cc22 ma0)) := Has.at Hh131 hin179 (own_g2 ra0)
    have pre180 : ∀ t, Steps p.tables e below (T128.setTop (mkF m 85 #[oR r0, oR r1, oI 2, oR b101, oI 0, oI 0, oI (-1), oI 0] [(.int 1), (.int (own_at cc20 cc21 cc22 ma0))])) t → Steps p.tables e below (s₁.setTop (mkF m 0 #[oR r0, oR r1, oI 2, oU, oU, oU, oU, oU] [])) t := by
      intro t kt
      refine pre133 _ ?_
      show own_S p e below T128 m 59 #[oR r0, oR r1, oI 2, oR b101, oI 0, oI 0, oI 3, oI ma2] [(.int cc20)] _
      refine XS.ifYes X128.here hx rfl (pc0 := 59) (pc' := 65) rfl (hb hby d1_59) rfl ((if0 _ _).trans (flt (he0 : ¬ ((0 : Int32) < cc20))).2.2.2) (by decide) (by decide) ?_
      show own_S p e below T128 m 65 _ [] _
      refine XS.iconst X128.here hx rfl (hb hby d1_65) ?_
      show own_S p e below T128 m 66 _ [(.int (-1))] _
      refine XS.istore X128.here hx rfl (hb hby d1_66) rfl (l' := #[oR r0, oR r1, oI 2, oR b101, oI 0, oI 0, oI (-1), oI ma2]) rfl ?_
      show own_S p e below T128 m 68 #[oR r0, oR r1, oI 2, oR b101, oI 0, oI 0, oI (-1), oI ma2] [] _
      refine XS.iconst X128.here hx rfl (hb hby d1_68) ?_
      show own_S p e below T128 m 69 _ [(.int 0)] _
      refine XS.istore X128.here hx rfl (hb hby d1_69) rfl (l' := #[oR r0, oR r1, oI 2, oR b101, oI 0, oI 0, oI (-1), oI 0]) rfl ?_
      show own_S p e below T128 m 71 #[oR r0, oR r1, oI 2, oR b101, oI 0, oI 0, oI (-1), oI 0] [] _
      refine XS.iload X128.here hx rfl (hb hby d1_71) rfl ?_
      show own_S p e below T128 m 73 _ [(.int 0)] _
      refine XS.aloadN X128.here hx rfl (hb hby d1_73) rfl rfl ?_
      show own_S p e below T128 m 74 _ [(.ref r0), (.int 0)] _
      refine X128.arraylength hx (by rw [e128]; exact Ar177.1) (State.isArrayOf_alike hZ.alike Ar177.2.1) (g := (mkF m 74 #[oR r0, oR r1, oI 2, oR b101, oI 0, oI 0, oI (-1), oI 0] [(.ref r0), (.int 0)])) rfl rfl (hb hby d1_74) _ ?_
      rw [len_of Sz177 Nz177]
      show own_S p e below T128 m 75 _ [(.int 3), (.int 0)] _
      refine XS.icmpNo X128.here hx rfl (hb hby d1_75) rfl (tlt (by decide : (0 : Int32) < (3 : Int32))).2.1 ?_
      show own_S p e below T128 m 78 _ [] _
      refine XS.aloadN X128.here hx rfl (hb hby d1_78) rfl rfl ?_
      show own_S p e below T128 m 79 _ [(.ref b101)] _
      refine XS.aloadN X128.here hx rfl (hb hby d1_79) rfl rfl ?_
      show own_S p e below T128 m 80 _ [(.ref r0), (.ref b101)] _
      refine XS.iload X128.here hx rfl (hb hby d1_80) rfl ?_
      show own_S p e below T128 m 82 #[oR r0, oR r1, oI 2, oR b101, oI 0, oI 0, oI (-1), oI 0] [(.int 0), (.ref r0), (.ref b101)] _
      refine X128.iaload hx (j := (0 : Int32)) (v := (.int ma0)) (by rw [e128]; exact Ar177.1) (State.isArrayOf_alike hZ.alike Ar177.2.1) Ar177.2.2 hin178 hat178 (g := (mkF m 82 #[oR r0, oR r1, oI 2, oR b101, oI 0, oI 0, oI (-1), oI 0] [(.int 0), (.ref r0), (.ref b101)])) rfl rfl (hb hby d1_82) _ ?_
      show own_S p e below T128 m 83 _ [(.int ma0), (.ref b101)] _
      refine X128.iaload hx (j := ma0) (v := (.int (own_at cc20 cc21 cc22 ma0))) (by rw [e128]; exact Ar131.1) (State.isArrayOf_alike hZ.alike Ar131.2.1) Ar131.2.2 hin179 hat179 (g := (mkF m 83 #[oR r0, oR r1, oI 2, oR b101, oI 0, oI 0, oI (-1), oI 0] [(.int ma0), (.ref b101)])) rfl rfl (hb hby d1_83) _ ?_
      show own_S p e below T128 m 84 _ [(.int (own_at cc20 cc21 cc22 ma0))] _
      refine XS.iconst X128.here hx rfl (hb hby d1_84) ?_
      exact kt
    have pre181 : ∀ t, Steps p.tables e below (T128.setTop (mkF m 109 #[oR r0, oR r1, oI 2, oR b101, oI 0, oI 0, oI w1t_, oI 0] [])) t → Steps p.tables e below (s₁.setTop (mkF m 0 #[oR r0, oR r1, oI 2, oU, oU, oU, oU, oU] [])) t := by
      intro t kt
      refine pre180 _ ?_
      show own_S p e below T128 m 85 #[oR r0, oR r1, oI 2, oR b101, oI 0, oI 0, oI (-1), oI 0] [(.int 1), (.int (own_at cc20 cc21 cc22 ma0))] _
      by_cases hj : (1 : Int32) < (own_at cc20 cc21 cc22 ma0)
      · skip
        refine XS.icmpNo X128.here hx rfl (hb hby d1_85) rfl (tlt (hj : (1 : Int32) < (own_at cc20 cc21 cc22 ma0))).2.2.2 ?_
        show own_S p e below T128 m 88 #[oR r0, oR r1, oI 2, oR b101, oI 0, oI 0, oI (-1), oI 0] [] _
        refine XS.iload X128.here hx rfl (hb hby d1_88) rfl ?_
        show own_S p e below T128 m 90 _ [(.int (-1))] _
        refine XS.ifYes X128.here hx rfl (pc0 := 90) (pc' := 105) rfl (hb hby d1_90) rfl ((if0 _ _).trans (tlt (by decide : (-1 : Int32) < (0 : Int32))).1) (by decide) (by decide) ?_
        show own_S p e below T128 m 105 _ [] _
        refine XS.iload X128.here hx rfl (hb hby d1_105) rfl ?_
        show own_S p e below T128 m 107 _ [(.int 0)] _
        refine XS.istore X128.here hx rfl (hb hby d1_107) rfl (l' := #[oR r0, oR r1, oI 2, oR b101, oI 0, oI 0, oI 0, oI 0]) rfl ?_
        rw [(hw1t_.trans (if_pos hj) : w1t_ = (0 : Int32))] at kt
        exact kt
      · skip
        refine XS.icmpYes X128.here hx rfl (pc0 := 85) (pc' := 109) rfl (hb hby d1_85) rfl (flt (hj : ¬ ((1 : Int32) < (own_at cc20 cc21 cc22 ma0)))).2.2.2 (by decide) (by decide) ?_
        rw [(hw1t_.trans (if_neg hj) : w1t_ = (-1 : Int32))] at kt
        exact kt
    have hin182 : ¬ ((1 : Int32) < 0 ∨ cl177.slots.size ≤ ((1 : Int32)).toNatClampNeg) := inb_of Sz177 ⟨by decide, by decide⟩
    have hat182 : cl177.slots[((1 : Int32)).toNatClampNeg]? = some (.int ma1) := Has.at Hh177 hin182 rfl
    have hin183 : ¬ (ma1 < 0 ∨ cl131.slots.size ≤ (ma1).toNatClampNeg) := inb_of Sz131 (own_b2 ra1)
    have hat183 : cl131.slots[(ma1).toNatClampNeg]? = some (.int (own_at cc20 cc21 cc22 ma1)) := Has.at Hh131 hin183 (own_g2 ra1)
    have pre184 : ∀ t, Steps p.tables e below (T128.setTop (mkF m 85 #[oR r0, oR r1, oI 2, oR b101, oI 0, oI 0, oI w1t_, oI 1] [(.int 1), (.int (own_at cc20 cc21 cc22 ma1))])) t → Steps p.tables e below (s₁.setTop (mkF m 0 #[oR r0, oR r1, oI 2, oU, oU, oU, oU, oU] [])) t := by
      intro t kt
      refine pre181 _ ?_
      show own_S p e below T128 m 109 #[oR r0, oR r1, oI 2, oR b101, oI 0, oI 0, oI w1t_, oI 0] [] _
      refine XS.iinc X128.here hx rfl (hb hby d1_109) rfl (l' := #[oR r0, oR r1, oI 2, oR b101, oI 0, oI 0, oI w1t_, oI 1]) rfl ?_
      show own_S p e below T128 m 112 #[oR r0, oR r1, oI 2, oR b101, oI 0, oI 0, oI w1t_, oI 1] [] _
      refine XS.goto X128.here hx rfl (pc0 := 112) (pc' := 71) rfl (hb hby d1_112) (by decide) (by decide) ?_
      show own_S p e below T128 m 71 _ [] _
      refine XS.iload X128.here hx rfl (hb hby d1_71) rfl ?_
      show own_S p e below T128 m 73 _ [(.int 1)] _
      refine XS.aloadN X128.here hx rfl (hb hby d1_73) rfl rfl ?_
      show own_S p e below T128 m 74 _ [(.ref r0), (.int 1)] _
      refine X128.arraylength hx (by rw [e128]; exact Ar177.1) (State.isArrayOf_alike hZ.alike Ar177.2.1) (g := (mkF m 74 #[oR r0, oR r1, oI 2, oR b101, oI 0, oI 0, oI w1t_, oI 1] [(.ref r0), (.int 1)])) rfl rfl (hb hby d1_74) _ ?_
      rw [len_of Sz177 Nz177]
      show own_S p e below T128 m 75 _ [(.int 3), (.int 1)] _
      refine XS.icmpNo X128.here hx rfl (hb hby d1_75) rfl (tlt (by decide : (1 : Int32) < (3 : Int32))).2.1 ?_
      show own_S p e below T128 m 78 _ [] _
      refine XS.aloadN X128.here hx rfl (hb hby d1_78) rfl rfl ?_
      show own_S p e below T128 m 79 _ [(.ref b101)] _
      refine XS.aloadN X128.here hx rfl (hb hby d1_79) rfl rfl ?_
      show own_S p e below T128 m 80 #[oR r0, oR r1, oI 2, oR b101, oI 0, oI 0, oI w1t_, oI 1] [(.ref r0), (.ref b101)] _
      refine XS.iload X128.here hx rfl (hb hby d1_80) rfl ?_
      show own_S p e below T128 m 82 _ [(.int 1), (.ref r0), (.ref b101)] _
      refine X128.iaload hx (j := (1 : Int32)) (v := (.int ma1)) (by rw [e128]; exact Ar177.1) (State.isArrayOf_alike hZ.alike Ar177.2.1) Ar177.2.2 hin182 hat182 (g := (mkF m 82 #[oR r0, oR r1, oI 2, oR b101, oI 0, oI 0, oI w1t_, oI 1] [(.int 1), (.ref r0), (.ref b101)])) rfl rfl (hb hby d1_82) _ ?_
      show own_S p e below T128 m 83 _ [(.int ma1), (.ref b101)] _
      refine X128.iaload hx (j := ma1) (v := (.int (own_at cc20 cc21 cc22 ma1))) (by rw [e128]; exact Ar131.1) (State.isArrayOf_alike hZ.alike Ar131.2.1) Ar131.2.2 hin183 hat183 (g := (mkF m 83 #[oR r0, oR r1, oI 2, oR b101, oI 0, oI 0, oI w1t_, oI 1] [(.int ma1), (.ref b101)])) rfl rfl (hb hby d1_83) _ ?_
      show own_S p e below T128 m 84 _ [(.int (own_at cc20 cc21 cc22 ma1))] _
      refine XS.iconst X128.here hx rfl (hb hby d1_84) ?_
      exact kt
    have pre189 : ∀ t, Steps p.tables e below (T128.setTop (mkF m 109 #[oR r0, oR r1, oI 2, oR b101, oI 0, oI 0, oI w2t_, oI 1] [])) t → Steps p.tables e below (s₁.setTop (mkF m 0 #[oR r0, oR r1, oI 2, oU, oU, oU, oU, oU] [])) t := by
      intro t kt
      refine pre184 _ ?_
      show own_S p e below T128 m 85 #[oR r0, oR r1, oI 2, oR b101, oI 0, oI 0, oI w1t_, oI 1] [(.int 1), (.int (own_at cc20 cc21 cc22 ma1))] _
      by_cases hj : (1 : Int32) < (own_at cc20 cc21 cc22 ma1)
      · skip
        refine XS.icmpNo X128.here hx rfl (hb hby d1_85) rfl (tlt (hj : (1 : Int32) < (own_at cc20 cc21 cc22 ma1))).2.2.2 ?_
        show own_S p e below T128 m 88 #[oR r0, oR r1, oI 2, oR b101, oI 0, oI 0, oI w1t_, oI 1] [] _
        refine XS.iload X128.here hx rfl (hb hby d1_88) rfl ?_
        show own_S p e below T128 m 90 _ [(.int w1t_)] _
        by_cases hn : w1t_ < (0 : Int32)
        · skip
          refine XS.ifYes X128.here hx rfl (pc0 := 90) (pc' := 105) rfl (hb hby d1_90) rfl ((if0 _ _).trans (tlt (hn : w1t_ < (0 : Int32))).1) (by decide) (by decide) ?_
          show own_S p e below T128 m 105 #[oR r0, oR r1, oI 2, oR b101, oI 0, oI 0, oI w1t_, oI 1] [] _
          refine XS.iload X128.here hx rfl (hb hby d1_105) rfl ?_
          show own_S p e below T128 m 107 _ [(.int 1)] _
          refine XS.istore X128.here hx rfl (hb hby d1_107) rfl (l' := #[oR r0, oR r1, oI 2, oR b101, oI 0, oI 0, oI 1, oI 1]) rfl ?_
          rw [(hw2t_.trans (own_w2TT hj hn) : w2t_ = (1 : Int32))] at kt
          exact kt
        · skip
          have Fc185 := ((((V_r1.ext E101).other W110 (Nat.ne_of_lt (Nat.lt_of_lt_of_le V_r1.lt (Nat.le_of_eq g101.symm)))).other W119 (Nat.ne_of_lt (Nat.lt_of_lt_of_le V_r1.lt (Nat.le_of_eq g101.symm)))).other W128 (Nat.ne_of_lt (Nat.lt_of_lt_of_le V_r1.lt (Nat.le_of_eq g101.symm))))
          obtain ⟨cl186, Ar186, qk186, Sz186, Nz186, Hh186, Gg186⟩ := id Fc185
          have hin187 : ¬ ((1 : Int32) < 0 ∨ cl186.slots.size ≤ ((1 : Int32)).toNatClampNeg) := inb_of Sz186 ⟨by decide, by decide⟩
          have hat187 : cl186.slots[((1 : Int32)).toNatClampNeg]? = some (.double f1) := Has.at Hh186 hin187 rfl
          have hin188 : ¬ (w1t_ < 0 ∨ cl186.slots.size ≤ (w1t_).toNatClampNeg) := inb_of Sz186 (own_b00 (own_w1z hw1t_ hn))
          have hat188 : cl186.slots[(w1t_).toNatClampNeg]? = some (.double f0) := Has.at Hh186 hin188 (own_gd0 (own_w1z hw1t_ hn))
          refine XS.ifNo X128.here hx rfl (hb hby d1_90) rfl ((if0 _ _).trans (flt (hn : ¬ (w1t_ < (0 : Int32)))).1) ?_
          show own_S p e below T128 m 93 #[oR r0, oR r1, oI 2, oR b101, oI 0, oI 0, oI w1t_, oI 1] [] _
          refine XS.aloadN X128.here hx rfl (hb hby d1_93) rfl rfl ?_
          show own_S p e below T128 m 94 _ [(.ref r1)] _
          refine XS.iload X128.here hx rfl (hb hby d1_94) rfl ?_
          show own_S p e below T128 m 96 _ [(.int 1), (.ref r1)] _
          refine X128.daload hx (j := (1 : Int32)) (v := (.double f1)) (by rw [e128]; exact Ar186.1) (State.isArrayOf_alike hZ.alike Ar186.2.1) Ar186.2.2 hin187 hat187 (g := (mkF m 96 #[oR r0, oR r1, oI 2, oR b101, oI 0, oI 0, oI w1t_, oI 1] [(.int 1), (.ref r1)])) rfl rfl (hb hby d1_96) _ ?_
          show own_S p e below T128 m 97 _ [(.double f1)] _
          refine XS.aloadN X128.here hx rfl (hb hby d1_97) rfl rfl ?_
          show own_S p e below T128 m 98 _ [(.ref r1), (.double f1)] _
          refine XS.iload X128.here hx rfl (hb hby d1_98) rfl ?_
          show own_S p e below T128 m 100 _ [(.int w1t_), (.ref r1), (.double f1)] _
          refine X128.daload hx (j := w1t_) (v := (.double f0)) (by rw [e128]; exact Ar186.1) (State.isArrayOf_alike hZ.alike Ar186.2.1) Ar186.2.2 hin188 hat188 (g := (mkF m 100 #[oR r0, oR r1, oI 2, oR b101, oI 0, oI 0, oI w1t_, oI 1] [(.int w1t_), (.ref r1), (.double f1)])) rfl rfl (hb hby d1_100) _ ?_
          show own_S p e below T128 m 101 _ [(.double f0), (.double f1)] _
          refine XS.dcmpS X128.here hx rfl (v := (cmpValue (FP.dcmp f1 f0) .g)) (hb hby d1_101) rfl rfl ?_
          show own_S p e below T128 m 102 #[oR r0, oR r1, oI 2, oR b101, oI 0, oI 0, oI w1t_, oI 1] [(.int (cmpValue (FP.dcmp f1 f0) .g))] _
          by_cases hd : (cmpValue (FP.dcmp f1 f0) .g) < (0 : Int32)
          · skip
            refine XS.ifNo X128.here hx rfl (hb hby d1_102) rfl ((if0 _ _).trans (tlt (hd : (cmpValue (FP.dcmp f1 f0) .g) < (0 : Int32))).2.1) ?_
            show own_S p e below T128 m 105 #[oR r0, oR r1, oI 2, oR b101, oI 0, oI 0, oI w1t_, oI 1] [] _
            refine XS.iload X128.here hx rfl (hb hby d1_105) rfl ?_
            show own_S p e below T128 m 107 _ [(.int 1)] _
            refine XS.istore X128.here hx rfl (hb hby d1_107) rfl (l' := #[oR r0, oR r1, oI 2, oR b101, oI 0, oI 0, oI 1, oI 1]) rfl ?_
            rw [(hw2t_.trans (own_w2TFT hj hn (cx.mp hd)) : w2t_ = (1 : Int32))] at kt
            exact kt
          · skip
            refine XS.ifYes X128.here hx rfl (pc0 := 102) (pc' := 109) rfl (hb hby d1_102) rfl ((if0 _ _).trans (flt (hd : ¬ ((cmpValue (FP.dcmp f1 f0) .g) < (0 : Int32)))).2.1) (by decide) (by decide) ?_
            rw [(hw2t_.trans (own_w2TFF hj hn (fun q => hd (cx.mpr q))) : w2t_ = w1t_)] at kt
            exact kt
      · skip
        refine XS.icmpYes X128.here hx rfl (pc0 := 85) (pc' := 109) rfl (hb hby d1_85) rfl (flt (hj : ¬ ((1 : Int32) < (own_at cc20 cc21 cc22 ma1)))).2.2.2 (by decide) (by decide) ?_
        rw [(hw2t_.trans (own_w2F hj) : w2t_ = w1t_)] at kt
        exact kt
    have hin190 : ¬ ((2 : Int32) < 0 ∨ cl177.slots.size ≤ ((2 : Int32)).toNatClampNeg) := inb_of Sz177 ⟨by decide, by decide⟩
    have hat190 : cl177.slots[((2 : Int32)).toNatClampNeg]? = some (.int ma2) := Has.at Hh177 hin190 rfl
    have hin191 : ¬ (ma2 < 0 ∨ cl131.slots.size ≤ (ma2).toNatClampNeg) := inb_of Sz131 (own_b2 ra2)
    have hat191 : cl131.slots[(ma2).toNatClampNeg]? = some (.int (own_at cc20 cc21 cc22 ma2)) := Has.at Hh131 hin191 (own_g2 ra2)
    have pre192 : ∀ t, Steps p.tables e below (T128.setTop (mkF m 85 #[oR r0, oR r1, oI 2, oR b101, oI 0, oI 0, oI w2t_, oI 2] [(.int 1), (.int (own_at cc20 cc21 cc22 ma2))])) t → Steps p.tables e below (s₁.setTop (mkF m 0 #[oR r0, oR r1, oI 2, oU, oU, oU, oU, oU] [])) t := by
      intro t kt
      refine pre189 _ ?_
      show own_S p e below T128 m 109 #[oR r0, oR r1, oI 2, oR b101, oI 0, oI 0, oI w2t_, oI 1] [] _
      refine XS.iinc X128.here hx rfl (hb hby d1_109) rfl (l' := #[oR r0, oR r1, oI 2, oR b101, oI 0, oI 0, oI w2t_, oI 2]) rfl ?_
      show own_S p e below T128 m 112 #[oR r0, oR r1, oI 2, oR b101, oI 0, oI 0, oI w2t_, oI 2] [] _
      refine XS.goto X128.here hx rfl (pc0 := 112) (pc' := 71) rfl (hb hby d1_112) (by decide) (by decide) ?_
      show own_S p e below T128 m 71 _ [] _
      refine XS.iload X128.here hx rfl (hb hby d1_71) rfl ?_
      show own_S p e below T128 m 73 _ [(.int 2)] _
      refine XS.aloadN X128.here hx rfl (hb hby d1_73) rfl rfl ?_
      show own_S p e below T128 m 74 _ [(.ref r0), (.int 2)] _
      refine X128.arraylength hx (by rw [e128]; exact Ar177.1) (State.isArrayOf_alike hZ.alike Ar177.2.1) (g := (mkF m 74 #[oR r0, oR r1, oI 2, oR b101, oI 0, oI 0, oI w2t_, oI 2] [(.ref r0), (.int 2)])) rfl rfl (hb hby d1_74) _ ?_
      rw [len_of Sz177 Nz177]
      show own_S p e below T128 m 75 _ [(.int 3), (.int 2)] _
      refine XS.icmpNo X128.here hx rfl (hb hby d1_75) rfl (tlt (by decide : (2 : Int32) < (3 : Int32))).2.1 ?_
      show own_S p e below T128 m 78 _ [] _
      refine XS.aloadN X128.here hx rfl (hb hby d1_78) rfl rfl ?_
      show own_S p e below T128 m 79 _ [(.ref b101)] _
      refine XS.aloadN X128.here hx rfl (hb hby d1_79) rfl rfl ?_
      show own_S p e below T128 m 80 #[oR r0, oR r1, oI 2, oR b101, oI 0, oI 0, oI w2t_, oI 2] [(.ref r0), (.ref b101)] _
      refine XS.iload X128.here hx rfl (hb hby d1_80) rfl ?_
      show own_S p e below T128 m 82 _ [(.int 2), (.ref r0), (.ref b101)] _
      refine X128.iaload hx (j := (2 : Int32)) (v := (.int ma2)) (by rw [e128]; exact Ar177.1) (State.isArrayOf_alike hZ.alike Ar177.2.1) Ar177.2.2 hin190 hat190 (g := (mkF m 82 #[oR r0, oR r1, oI 2, oR b101, oI 0, oI 0, oI w2t_, oI 2] [(.int 2), (.ref r0), (.ref b101)])) rfl rfl (hb hby d1_82) _ ?_
      show own_S p e below T128 m 83 _ [(.int ma2), (.ref b101)] _
      refine X128.iaload hx (j := ma2) (v := (.int (own_at cc20 cc21 cc22 ma2))) (by rw [e128]; exact Ar131.1) (State.isArrayOf_alike hZ.alike Ar131.2.1) Ar131.2.2 hin191 hat191 (g := (mkF m 83 #[oR r0, oR r1, oI 2, oR b101, oI 0, oI 0, oI w2t_, oI 2] [(.int ma2), (.ref b101)])) rfl rfl (hb hby d1_83) _ ?_
      show own_S p e below T128 m 84 _ [(.int (own_at cc20 cc21 cc22 ma2))] _
      refine XS.iconst X128.here hx rfl (hb hby d1_84) ?_
      exact kt
    have pre197 : ∀ t, Steps p.tables e below (T128.setTop (mkF m 109 #[oR r0, oR r1, oI 2, oR b101, oI 0, oI 0, oI w3t_, oI 2] [])) t → Steps p.tables e below (s₁.setTop (mkF m 0 #[oR r0, oR r1, oI 2, oU, oU, oU, oU, oU] [])) t := by
      intro t kt
      refine pre192 _ ?_
      show own_S p e below T128 m 85 #[oR r0, oR r1, oI 2, oR b101, oI 0, oI 0, oI w2t_, oI 2] [(.int 1), (.int (own_at cc20 cc21 cc22 ma2))] _
      by_cases hj : (1 : Int32) < (own_at cc20 cc21 cc22 ma2)
      · skip
        refine XS.icmpNo X128.here hx rfl (hb hby d1_85) rfl (tlt (hj : (1 : Int32) < (own_at cc20 cc21 cc22 ma2))).2.2.2 ?_
        show own_S p e below T128 m 88 #[oR r0, oR r1, oI 2, oR b101, oI 0, oI 0, oI w2t_, oI 2] [] _
        refine XS.iload X128.here hx rfl (hb hby d1_88) rfl ?_
        show own_S p e below T128 m 90 _ [(.int w2t_)] _
        by_cases hn : w2t_ < (0 : Int32)
        · skip
          refine XS.ifYes X128.here hx rfl (pc0 := 90) (pc' := 105) rfl (hb hby d1_90) rfl ((if0 _ _).trans (tlt (hn : w2t_ < (0 : Int32))).1) (by decide) (by decide) ?_
          show own_S p e below T128 m 105 #[oR r0, oR r1, oI 2, oR b101, oI 0, oI 0, oI w2t_, oI 2] [] _
          refine XS.iload X128.here hx rfl (hb hby d1_105) rfl ?_
          show own_S p e below T128 m 107 _ [(.int 2)] _
          refine XS.istore X128.here hx rfl (hb hby d1_107) rfl (l' := #[oR r0, oR r1, oI 2, oR b101, oI 0, oI 0, oI 2, oI 2]) rfl ?_
          rw [(hw3t_.trans (own_w3TT hj hn) : w3t_ = (2 : Int32))] at kt
          exact kt
        · skip
          have Fc193 := ((((V_r1.ext E101).other W110 (Nat.ne_of_lt (Nat.lt_of_lt_of_le V_r1.lt (Nat.le_of_eq g101.symm)))).other W119 (Nat.ne_of_lt (Nat.lt_of_lt_of_le V_r1.lt (Nat.le_of_eq g101.symm)))).other W128 (Nat.ne_of_lt (Nat.lt_of_lt_of_le V_r1.lt (Nat.le_of_eq g101.symm))))
          obtain ⟨cl194, Ar194, qk194, Sz194, Nz194, Hh194, Gg194⟩ := id Fc193
          have hin195 : ¬ ((2 : Int32) < 0 ∨ cl194.slots.size ≤ ((2 : Int32)).toNatClampNeg) := inb_of Sz194 ⟨by decide, by decide⟩
          have hat195 : cl194.slots[((2 : Int32)).toNatClampNeg]? = some (.double f2) := Has.at Hh194 hin195 rfl
          have hin196 : ¬ (w2t_ < 0 ∨ cl194.slots.size ≤ (w2t_).toNatClampNeg) := inb_of Sz194 (own_b01 (own_w2z hw1t_ hw2t_ hn))
          have hat196 : cl194.slots[(w2t_).toNatClampNeg]? = some (.double (own_atD f0 f1 w2t_)) := Has.at Hh194 hin196 (own_gd (own_w2z hw1t_ hw2t_ hn))
          refine XS.ifNo X128.here hx rfl (hb hby d1_90) rfl ((if0 _ _).trans (flt (hn : ¬ (w2t_ < (0 : Int32)))).1) ?_
          show own_S p e below T128 m 93 #[oR r0, oR r1, oI 2, oR b101, oI 0, oI 0, oI w2t_, oI 2] [] _
          refine XS.aloadN X128.here hx rfl (hb hby d1_93) rfl rfl ?_
          show own_S p e below T128 m 94 _ [(.ref r1)] _
          refine XS.iload X128.here hx rfl (hb hby d1_94) rfl ?_
          show own_S p e below T128 m 96 _ [(.int 2), (.ref r1)] _
          refine X128.daload hx (j := (2 : Int32)) (v := (.double f2)) (by rw [e128]; exact Ar194.1) (State.isArrayOf_alike hZ.alike Ar194.2.1) Ar194.2.2 hin195 hat195 (g := (mkF m 96 #[oR r0, oR r1, oI 2, oR b101, oI 0, oI 0, oI w2t_, oI 2] [(.int 2), (.ref r1)])) rfl rfl (hb hby d1_96) _ ?_
          show own_S p e below T128 m 97 _ [(.double f2)] _
          refine XS.aloadN X128.here hx rfl (hb hby d1_97) rfl rfl ?_
          show own_S p e below T128 m 98 _ [(.ref r1), (.double f2)] _
          refine XS.iload X128.here hx rfl (hb hby d1_98) rfl ?_
          show own_S p e below T128 m 100 _ [(.int w2t_), (.ref r1), (.double f2)] _
          refine X128.daload hx (j := w2t_) (v := (.double (own_atD f0 f1 w2t_))) (by rw [e128]; exact Ar194.1) (State.isArrayOf_alike hZ.alike Ar194.2.1) Ar194.2.2 hin196 hat196 (g := (mkF m 100 #[oR r0, oR r1, oI 2, oR b101, oI 0, oI 0, oI w2t_, oI 2] [(.int w2t_), (.ref r1), (.double f2)])) rfl rfl (hb hby d1_100) _ ?_
          show own_S p e below T128 m 101 _ [(.double (own_atD f0 f1 w2t_)), (.double f2)] _
          refine XS.dcmpS X128.here hx rfl (v := (cmpValue (FP.dcmp f2 (own_atD f0 f1 w2t_)) .g)) (hb hby d1_101) rfl rfl ?_
          show own_S p e below T128 m 102 #[oR r0, oR r1, oI 2, oR b101, oI 0, oI 0, oI w2t_, oI 2] [(.int (cmpValue (FP.dcmp f2 (own_atD f0 f1 w2t_)) .g))] _
          by_cases hd : (cmpValue (FP.dcmp f2 (own_atD f0 f1 w2t_)) .g) < (0 : Int32)
          · skip
            refine XS.ifNo X128.here hx rfl (hb hby d1_102) rfl ((if0 _ _).trans (tlt (hd : (cmpValue (FP.dcmp f2 (own_atD f0 f1 w2t_)) .g) < (0 : Int32))).2.1) ?_
            show own_S p e below T128 m 105 #[oR r0, oR r1, oI 2, oR b101, oI 0, oI 0, oI w2t_, oI 2] [] _
            refine XS.iload X128.here hx rfl (hb hby d1_105) rfl ?_
            show own_S p e below T128 m 107 _ [(.int 2)] _
            refine XS.istore X128.here hx rfl (hb hby d1_107) rfl (l' := #[oR r0, oR r1, oI 2, oR b101, oI 0, oI 0, oI 2, oI 2]) rfl ?_
            rw [(hw3t_.trans (own_w3TFT hj hn ((own_cyz (own_w2z hw1t_ hw2t_ hn) cy cz).mp hd)) : w3t_ = (2 : Int32))] at kt
            exact kt
          · skip
            refine XS.ifYes X128.here hx rfl (pc0 := 102) (pc' := 109) rfl (hb hby d1_102) rfl ((if0 _ _).trans (flt (hd : ¬ ((cmpValue (FP.dcmp f2 (own_atD f0 f1 w2t_)) .g) < (0 : Int32)))).2.1) (by decide) (by decide) ?_
            rw [(hw3t_.trans (own_w3TFF hj hn (fun q => hd ((own_cyz (own_w2z hw1t_ hw2t_ hn) cy cz).mpr q))) : w3t_ = w2t_)] at kt
            exact kt
      · skip
        refine XS.icmpYes X128.here hx rfl (pc0 := 85) (pc' := 109) rfl (hb hby d1_85) rfl (flt (hj : ¬ ((1 : Int32) < (own_at cc20 cc21 cc22 ma2)))).2.2.2 (by decide) (by decide) ?_
        rw [(hw3t_.trans (own_w3F hj) : w3t_ = w2t_)] at kt
        exact kt
    have hin198 : ¬ (w3t_ < 0 ∨ cl177.slots.size ≤ (w3t_).toNatClampNeg) := inb_of Sz177 (own_b3 hWw3t_)
    have hat198 : cl177.slots[(w3t_).toNatClampNeg]? = some (.int mwt_) := Has.at Hh177 hin198 (by rw [hmwt_]; exact own_g3 hWw3t_)
    have hin199 : ¬ (mwt_ < 0 ∨ cl131.slots.size ≤ (mwt_).toNatClampNeg) := inb_of Sz131 (own_b2 hRmwt_)
    have hat199 : cl131.slots[(mwt_).toNatClampNeg]? = some (.int (own_at cc20 cc21 cc22 mwt_)) := Has.at Hh131 hin199 (own_g2 hRmwt_)
    have hin200 : ¬ (mwt_ < 0 ∨ cl131.slots.size ≤ (mwt_).toNatClampNeg) := inb_of Sz131 (own_b2 hRmwt_)
    obtain ⟨T201, h201, X201, e201, W201, st201⟩ := stI X128 hx hZ e128 Ar131 (j := mwt_) hin200 (g := (mkF m 124 #[oR r0, oR r1, oI 2, oR b101, oI 0, oI 0, oI w3t_, oI 3] [(.int ((own_at cc20 cc21 cc22 mwt_) - (1 : Int32))), (.int mwt_), (.ref b101)])) rfl rfl (hb hby d1_124)
    have Va201 := Arv.set Ar131 qk131 Sz131 Nz131 Hh131 Gg131 rfl W201 (mwt_).toNatClampNeg rfl (own_l2 hRmwt_)
    have Vs201 : Arv Z h201 b101 k101 .int (2 : Int32) [(.int d0t_), (.int d1t_)] (.int 0) := by rw [← (by rw [hd0t_, hd1t_]; exact own_s2 hRmwt_ : ([(.int cc20), (.int cc21)] : List Value).set (mwt_).toNatClampNeg (.int ((own_at cc20 cc21 cc22 mwt_) - (1 : Int32))) = [(.int d0t_), (.int d1t_)])]; exact Va201
    have N201 := Fr.snoc X201 N128 g_b101
    have ZZ202 : n0 ≤ h201.size := Nat.le_trans ZZ129 (Nat.le_of_eq W201.size.symm)
    have KK203 : Keep h0 h201 [r0] := KK130.wr W201 (Or.inr sz_b101)
    obtain ⟨cl204, Ar204, qk204, Sz204, Nz204, Hh204, Gg204⟩ := id Vs201
    have hin205 : ¬ ((0 : Int32) < 0 ∨ cl204.slots.size ≤ ((0 : Int32)).toNatClampNeg) := inb_of Sz204 ⟨by decide, by decide⟩
    have hat205 : cl204.slots[((0 : Int32)).toNatClampNeg]? = some (.int d0t_) := Has.at Hh204 hin205 rfl
    have hin206 : ¬ ((0 : Int32) < 0 ∨ cl204.slots.size ≤ ((0 : Int32)).toNatClampNeg) := inb_of Sz204 ⟨by decide, by decide⟩
    obtain ⟨T207, h207, X207, e207, W207, st207⟩ := stI X201 hx hZ e201 Ar204 (j := (0 : Int32)) hin206 (g := (mkF m 132 #[oR r0, oR r1, oI 2, oR b101, oI 0, oI 0, oI w3t_, oI 3] [(.int (d0t_ + (1 : Int32))), (.int 0), (.ref b101)])) rfl rfl (hb hby d1_132)
    have Va207 := Arv.set Ar204 qk204 Sz204 Nz204 Hh204 Gg204 rfl W207 0 rfl (Nat.le_of_ble_eq_true rfl)
    have N207 := Fr.snoc X207 N201 g_b101
    have ZZ208 : n0 ≤ h207.size := Nat.le_trans ZZ202 (Nat.le_of_eq W207.size.symm)
    have KK209 : Keep h0 h207 [r0] := KK203.wr W207 (Or.inr sz_b101)
    have Fc210 := ((Fc176.other W201 (Nat.ne_of_lt (Nat.lt_of_lt_of_le V_r0.lt (Nat.le_of_eq g101.symm)))).other W207 (Nat.ne_of_lt (Nat.lt_of_lt_of_le V_r0.lt (Nat.le_of_eq g101.symm))))
    obtain ⟨cl211, Ar211, qk211, Sz211, Nz211, Hh211, Gg211⟩ := id Fc210
    have hin212 : ¬ (w3t_ < 0 ∨ cl211.slots.size ≤ (w3t_).toNatClampNeg) := inb_of Sz211 (own_b3 hWw3t_)
    obtain ⟨T213, h213, X213, e213, W213, st213⟩ := stI X207 hx hZ e207 Ar211 (j := w3t_) hin212 (g := (mkF m 138 #[oR r0, oR r1, oI 2, oR b101, oI 0, oI 0, oI w3t_, oI 3] [(.int 0), (.int w3t_), (.ref r0)])) rfl rfl (hb hby d1_138)
    have Va213 := Arv.set Ar211 qk211 Sz211 Nz211 Hh211 Gg211 rfl W213 (w3t_).toNatClampNeg rfl (own_l3 hWw3t_)
    have Vs213 : Arv Z h213 r0 ka .int (3 : Int32) [(.int n0t_), (.int n1t_), (.int n2t_)] (.int 0) := by rw [← (by rw [hn0t_, hn1t_, hn2t_]; exact own_s3 hWw3t_ : ([(.int ma0), (.int ma1), (.int ma2)] : List Value).set (w3t_).toNatClampNeg (.int 0) = [(.int n0t_), (.int n1t_), (.int n2t_)])]; exact Va213
    have N213 := Fr.snoc X213 N207 g_r0
    have ZZ214 : n0 ≤ h213.size := Nat.le_trans ZZ208 (Nat.le_of_eq W213.size.symm)
    have KK215 : Keep h0 h213 [r0] := KK209.wr W213 (Or.inl (List.mem_of_getElem? (i := 0) rfl))
    have Fc216 := (Va207.other W213 (Ne.symm (Nat.ne_of_lt (Nat.lt_of_lt_of_le V_r0.lt (Nat.le_of_eq g101.symm)))))
    obtain ⟨cl217, Ar217, qk217, Sz217, Nz217, Hh217, Gg217⟩ := id Fc216
    have hin218 : ¬ ((1 : Int32) < 0 ∨ cl217.slots.size ≤ ((1 : Int32)).toNatClampNeg) := inb_of Sz217 ⟨by decide, by decide⟩
    have hat218 : cl217.slots[((1 : Int32)).toNatClampNeg]? = some (.int d1t_) := Has.at Hh217 hin218 rfl
    have hN : 0 < own_at (d0t_ + (1 : Int32)) d1t_ d2t_ 1 := by
      have q := own_N2 x y z ra0 ra1 ra2
      rw [H1, H0] at q
      exact q he0
    have he1 : (0 : Int32) < d1t_ := hN
    have H2 : own_F2 x y z ma0 ma1 ma2 = (⟨(d0t_ + (1 : Int32)), d1t_, d2t_, n0t_, n1t_, n2t_, (1 : Int32)⟩ : own_St) := own_F2p H1 he1
    obtain ⟨fs, hr, hrun, hended, hW, hsame⟩ := X213.leave (v := some (.int 1)) (fun h => by rw [Bd.returns] at h; cases h)
    refine ⟨_, _, pre0 _ (pre197 _ ?_), hrun, hended, _, _, rfl, ?_, ⟨_, rfl⟩, hW, hsame.mono (by decide) (by decide)⟩
    · show own_S p e below T128 m 109 #[oR r0, oR r1, oI 2, oR b101, oI 0, oI 0, oI w3t_, oI 2] [] _
      refine XS.iinc X128.here hx rfl (hb hby d1_109) rfl (l' := #[oR r0, oR r1, oI 2, oR b101, oI 0, oI 0, oI w3t_, oI 3]) rfl ?_
      show own_S p e below T128 m 112 #[oR r0, oR r1, oI 2, oR b101, oI 0, oI 0, oI w3t_, oI 3] [] _
      refine XS.goto X128.here hx rfl (pc0 := 112) (pc' := 71) rfl (hb hby d1_112) (by decide) (by decide) ?_
      show own_S p e below T128 m 71 _ [] _
      refine XS.iload X128.here hx rfl (hb hby d1_71) rfl ?_
      show own_S p e below T128 m 73 _ [(.int 3)] _
      refine XS.aloadN X128.here hx rfl (hb hby d1_73) rfl rfl ?_
      show own_S p e below T128 m 74 _ [(.ref r0), (.int 3)] _
      refine X128.arraylength hx (by rw [e128]; exact Ar177.1) (State.isArrayOf_alike hZ.alike Ar177.2.1) (g := (mkF m 74 #[oR r0, oR r1, oI 2, oR b101, oI 0, oI 0, oI w3t_, oI 3] [(.ref r0), (.int 3)])) rfl rfl (hb hby d1_74) _ ?_
      rw [len_of Sz177 Nz177]
      show own_S p e below T128 m 75 _ [(.int 3), (.int 3)] _
      refine XS.icmpYes X128.here hx rfl (pc0 := 75) (pc' := 115) rfl (hb hby d1_75) rfl (flt (by decide : ¬ ((3 : Int32) < (3 : Int32)))).2.1 (by decide) (by decide) ?_
      show own_S p e below T128 m 115 _ [] _
      refine XS.aloadN X128.here hx rfl (hb hby d1_115) rfl rfl ?_
      show own_S p e below T128 m 116 _ [(.ref b101)] _
      refine XS.aloadN X128.here hx rfl (hb hby d1_116) rfl rfl ?_
      show own_S p e below T128 m 117 #[oR r0, oR r1, oI 2, oR b101, oI 0, oI 0, oI w3t_, oI 3] [(.ref r0), (.ref b101)] _
      refine XS.iload X128.here hx rfl (hb hby d1_117) rfl ?_
      show own_S p e below T128 m 119 _ [(.int w3t_), (.ref r0), (.ref b101)] _
      refine X128.iaload hx (j := w3t_) (v := (.int mwt_)) (by rw [e128]; exact Ar177.1) (State.isArrayOf_alike hZ.alike Ar177.2.1) Ar177.2.2 hin198 hat198 (g := (mkF m 119 #[oR r0, oR r1, oI 2, oR b101, oI 0, oI 0, oI w3t_, oI 3] [(.int w3t_), (.ref r0), (.ref b101)])) rfl rfl (hb hby d1_119) _ ?_
      show own_S p e below T128 m 120 _ [(.int mwt_), (.ref b101)] _
      jvm_step X128.here [X128.here.top, hx, (hb hby d1_120), Value.category]
      show own_S p e below T128 m 121 #[oR r0, oR r1, oI 2, oR b101, oI 0, oI 0, oI w3t_, oI 3] [(.int mwt_), (.ref b101), (.int mwt_), (.ref b101)] _
      refine X128.iaload hx (j := mwt_) (v := (.int (own_at cc20 cc21 cc22 mwt_))) (by rw [e128]; exact Ar131.1) (State.isArrayOf_alike hZ.alike Ar131.2.1) Ar131.2.2 hin199 hat199 (g := (mkF m 121 #[oR r0, oR r1, oI 2, oR b101, oI 0, oI 0, oI w3t_, oI 3] [(.int mwt_), (.ref b101), (.int mwt_), (.ref b101)])) rfl rfl (hb hby d1_121) _ ?_
      show own_S p e below T128 m 122 _ [(.int (own_at cc20 cc21 cc22 mwt_)), (.int mwt_), (.ref b101)] _
      refine XS.iconst X128.here hx rfl (hb hby d1_122) ?_
      show own_S p e below T128 m 123 _ [(.int 1), (.int (own_at cc20 cc21 cc22 mwt_)), (.int mwt_), (.ref b101)] _
      refine XS.isub X128.here hx rfl (hb hby d1_123) rfl ?_
      show own_S p e below T128 m 124 _ [(.int ((own_at cc20 cc21 cc22 mwt_) - (1 : Int32))), (.int mwt_), (.ref b101)] _
      refine st201 _ ?_
      show own_S p e below T201 m 125 _ [] _
      refine XS.aloadN X201.here hx rfl (hb hby d1_125) rfl rfl ?_
      show own_S p e below T201 m 126 _ [(.ref b101)] _
      refine XS.iload X201.here hx rfl (hb hby d1_126) rfl ?_
      show own_S p e below T201 m 128 _ [(.int 0), (.ref b101)] _
      jvm_step X201.here [X201.here.top, hx, (hb hby d1_128), Value.category]
      show own_S p e below T201 m 129 #[oR r0, oR r1, oI 2, oR b101, oI 0, oI 0, oI w3t_, oI 3] [(.int 0), (.ref b101), (.int 0), (.ref b101)] _
      refine X201.iaload hx (j := (0 : Int32)) (v := (.int d0t_)) (by rw [e201]; exact Ar204.1) (State.isArrayOf_alike hZ.alike Ar204.2.1) Ar204.2.2 hin205 hat205 (g := (mkF m 129 #[oR r0, oR r1, oI 2, oR b101, oI 0, oI 0, oI w3t_, oI 3] [(.int 0), (.ref b101), (.int 0), (.ref b101)])) rfl rfl (hb hby d1_129) _ ?_
      show own_S p e below T201 m 130 _ [(.int d0t_), (.int 0), (.ref b101)] _
      refine XS.iconst X201.here hx rfl (hb hby d1_130) ?_
      show own_S p e below T201 m 131 _ [(.int 1), (.int d0t_), (.int 0), (.ref b101)] _
      refine XS.iadd X201.here hx rfl (hb hby d1_131) rfl ?_
      show own_S p e below T201 m 132 _ [(.int (d0t_ + (1 : Int32))), (.int 0), (.ref b101)] _
      refine st207 _ ?_
      show own_S p e below T207 m 133 _ [] _
      refine XS.aloadN X207.here hx rfl (hb hby d1_133) rfl rfl ?_
      show own_S p e below T207 m 134 _ [(.ref r0)] _
      refine XS.iload X207.here hx rfl (hb hby d1_134) rfl ?_
      show own_S p e below T207 m 136 _ [(.int w3t_), (.ref r0)] _
      refine XS.iload X207.here hx rfl (hb hby d1_136) rfl ?_
      show own_S p e below T207 m 138 #[oR r0, oR r1, oI 2, oR b101, oI 0, oI 0, oI w3t_, oI 3] [(.int 0), (.int w3t_), (.ref r0)] _
      refine st213 _ ?_
      show own_S p e below T213 m 139 _ [] _
      refine XS.iconst X213.here hx rfl (hb hby d1_139) ?_
      show own_S p e below T213 m 140 _ [(.int 1)] _
      refine XS.istore X213.here hx rfl (hb hby d1_140) rfl (l' := #[oR r0, oR r1, oI 2, oR b101, oI 1, oI 0, oI w3t_, oI 3]) rfl ?_
      show own_S p e below T213 m 142 #[oR r0, oR r1, oI 2, oR b101, oI 1, oI 0, oI w3t_, oI 3] [] _
      refine XS.iinc X213.here hx rfl (hb hby d1_142) rfl (l' := #[oR r0, oR r1, oI 2, oR b101, oI 1, oI 1, oI w3t_, oI 3]) rfl ?_
      show own_S p e below T213 m 145 #[oR r0, oR r1, oI 2, oR b101, oI 1, oI 1, oI w3t_, oI 3] [] _
      refine XS.goto X213.here hx rfl (pc0 := 145) (pc' := 49) rfl (hb hby d1_145) (by decide) (by decide) ?_
      show own_S p e below T213 m 49 _ [] _
      refine XS.iload X213.here hx rfl (hb hby d1_49) rfl ?_
      show own_S p e below T213 m 51 _ [(.int 1)] _
      refine XS.iloadN X213.here hx rfl (hb hby d1_51) rfl ?_
      show own_S p e below T213 m 52 _ [(.int 2), (.int 1)] _
      refine XS.icmpNo X213.here hx rfl (hb hby d1_52) rfl (tlt (by decide : (1 : Int32) < (2 : Int32))).2.1 ?_
      show own_S p e below T213 m 55 _ [] _
      refine XS.aloadN X213.here hx rfl (hb hby d1_55) rfl rfl ?_
      show own_S p e below T213 m 56 _ [(.ref b101)] _
      refine XS.iload X213.here hx rfl (hb hby d1_56) rfl ?_
      show own_S p e below T213 m 58 _ [(.int 1), (.ref b101)] _
      refine X213.iaload hx (j := (1 : Int32)) (v := (.int d1t_)) (by rw [e213]; exact Ar217.1) (State.isArrayOf_alike hZ.alike Ar217.2.1) Ar217.2.2 hin218 hat218 (g := (mkF m 58 #[oR r0, oR r1, oI 2, oR b101, oI 1, oI 1, oI w3t_, oI 3] [(.int 1), (.ref b101)])) rfl rfl (hb hby d1_58) _ ?_
      show own_S p e below T213 m 59 #[oR r0, oR r1, oI 2, oR b101, oI 1, oI 1, oI w3t_, oI 3] [(.int d1t_)] _
      refine XS.ifNo X213.here hx rfl (hb hby d1_59) rfl ((if0 _ _).trans (tlt (he1 : (0 : Int32) < d1t_)).2.2.2) ?_
      show own_S p e below T213 m 62 _ [] _
      refine XS.goto X213.here hx rfl (pc0 := 62) (pc' := 142) rfl (hb hby d1_62) (by decide) (by decide) ?_
      show own_S p e below T213 m 142 _ [] _
      refine XS.iinc X213.here hx rfl (hb hby d1_142) rfl (l' := #[oR r0, oR r1, oI 2, oR b101, oI 1, oI 2, oI w3t_, oI 3]) rfl ?_
      show own_S p e below T213 m 145 #[oR r0, oR r1, oI 2, oR b101, oI 1, oI 2, oI w3t_, oI 3] [] _
      refine XS.goto X213.here hx rfl (pc0 := 145) (pc' := 49) rfl (hb hby d1_145) (by decide) (by decide) ?_
      show own_S p e below T213 m 49 _ [] _
      refine XS.iload X213.here hx rfl (hb hby d1_49) rfl ?_
      show own_S p e below T213 m 51 _ [(.int 2)] _
      refine XS.iloadN X213.here hx rfl (hb hby d1_51) rfl ?_
      show own_S p e below T213 m 52 _ [(.int 2), (.int 2)] _
      refine XS.icmpYes X213.here hx rfl (pc0 := 52) (pc' := 148) rfl (hb hby d1_52) rfl (flt (by decide : ¬ ((2 : Int32) < (2 : Int32)))).2.1 (by decide) (by decide) ?_
      show own_S p e below T213 m 148 _ [] _
      refine XS.iload X213.here hx rfl (hb hby d1_148) rfl ?_
      show own_S p e below T213 m 150 _ [(.int 1)] _
      exact retN X213 hx (t := .boolean) Bd.returns (by simp) (hb hby d1_150) hr
    · show Qf2 Z r0 r1 ka kb ma0 ma1 ma2 f0 f1 f2 x y z h0 n0 _ T213.heap _
      rw [e213]
      exact ⟨n0t_, n1t_, n2t_, (1 : Int32), rfl, N213, KK215, Vs213, (by rw [H2]; exact ⟨rfl, rfl, rfl, rfl⟩)⟩
theorem eff3 (m : MethodId) (r0 : Addr) (r1 : Addr) : entryFrame m #[(.ref r0), (.ref r1), (.int 3)] 8 = mkF m 0 #[oR r0, oR r1, oI 3, oU, oU, oU, oU, oU] [] := by first | (simp [entryFrame, mkF, argsToLocals, Value.category]; done) | rfl
def Qf3 (Z : State) (r0 : Addr) (r1 : Addr) (ka : ClassId) (kb : ClassId) (ma0 : Int32) (ma1 : Int32) (ma2 : Int32) (f0 : UInt64) (f1 : UInt64) (f2 : UInt64) (x : Bool) (y : Bool) (z : Bool) (h0 : Heap) (n0 : Nat) (v : Option Value) (h : Heap) (L : List Loc) : Prop := ∃ o0 : Int32, ∃ o1 : Int32, ∃ o2 : Int32, ∃ orr : Int32, v = some (.int orr) ∧ Fr n0 L ∧ (Keep h0 h [r0]) ∧ (Arv Z h r0 ka .int (3 : Int32) [(.int o0), (.int o1), (.int o2)] (.int 0)) ∧ ((own_F3 x y z ma0 ma1 ma2).m0 = o0 ∧ (own_F3 x y z ma0 ma1 ma2).m1 = o1 ∧ (own_F3 x y z ma0 ma1 ma2).m2 = o2 ∧ (own_F3 x y z ma0 ma1 ma2).r = orr)
set_option maxRecDepth 65536 in
set_option maxHeartbeats 40000000 in
theorem rmf3 (l : Launch) (Z : State) (a0 : Array Value) (hw : ∀ d ∈ tables_1, d.before a0 Z = true) (ws : List Jvm.Cond) (r0 : Addr) (r1 : Addr) (ka : ClassId) (kb : ClassId) (ma0 : Int32) (ma1 : Int32) (ma2 : Int32) (f0 : UInt64) (f1 : UInt64) (f2 : UInt64) (x : Bool) (y : Bool) (z : Bool) (h0 : Heap) (n0 : Nat) (Z0 : n0 ≤ h0.size) (V_r0 : Arv Z h0 r0 ka .int (3 : Int32) [(.int ma0), (.int ma1), (.int ma2)] (.int 0)) (V_r1 : Arv Z h0 r1 kb .double (3 : Int32) [(.double f0), (.double f1), (.double f2)] (.double 0)) (g_r0 : n0 ≤ r0) (ne_r1_r0 : r1 ≠ r0) (ra0 : (ma0 = 0 ∨ ma0 = 1 ∨ ma0 = 2)) (ra1 : (ma1 = 0 ∨ ma1 = 1 ∨ ma1 = 2)) (ra2 : (ma2 = 0 ∨ ma2 = 1 ∨ ma2 = 2)) (cx : (cmpValue (FP.dcmp f1 f0) .g) < (0 : Int32) ↔ x = true) (cy : (cmpValue (FP.dcmp f2 f0) .g) < (0 : Int32) ↔ y = true) (cz : (cmpValue (FP.dcmp f2 f1) .g) < (0 : Int32) ↔ z = true) :
    MetFree l (⟨"com/example/metasearch/metasearch/EmptyClusters", "fill", "([I[DI)Z"⟩ : MethodName) (head1 (Jvm.Cond.code (⟨"com/example/metasearch/metasearch/EmptyClusters", "fill", "([I[DI)Z"⟩ : MethodName) prog_8_method_2_code 8 (some .boolean) :: ws) ({ frames := 0, cells := 1, slots := 3, locals := 0 } : Room)) (fun a U => a = #[(.ref r0), (.ref r1), (.int 3)] ∧ Z.Warmed39 U.vm ∧ U.heap = h0) (fun _ _ _ _ _ => True) (fun _ U o U' => ∃ v L, o = .returned v ∧ Qf3 Z r0 r1 ka kb ma0 ma1 ma2 f0 f1 f2 x y z h0 n0 v U'.heap L ∧ FrameEnd U o U' L ({ frames := 0, cells := 1, slots := 3, locals := 0 } : Room).cells ({ frames := 0, cells := 1, slots := 3, locals := 0 } : Room).slots) := by
  refine MetFree.of_bodySF (plainFor_of_name pn1) hisR ?_
  intro p e s m args below meth c s₁ Bd hml0 hP hK
  obtain ⟨rfl, hZ, hh⟩ := hP
  have hx := Bd.exec
  have hby := Bd.bytes
  have hml : c.maxLocals = 8 := hml0
  have hown : s.vm.findClass "com/example/metasearch/metasearch/EmptyClusters" = some m.cls := findClass_of_methodNamed Bd.named
  have hnm := (name_of_methodNamed Bd.named Bd.method).1
  have X0 : Stand p l e ({ frames := 0, cells := 1, slots := 3, locals := 0 } : Room) s m #[(.ref r0), (.ref r1), (.int 3)] below meth c s₁ [] 0 0 := Stand.of_body Bd
  have e0 : s₁.heap = h0 := by rw [← hh, Bd.state]; rfl
  have N0 := Fr.nil n0
  have pre0 : ∀ t, Steps p.tables e below (s₁.setTop (mkF m 0 #[oR r0, oR r1, oI 3, oU, oU, oU, oU, oU] [])) t → Steps p.tables e below (s₁.setTop (entryFrame m #[(.ref r0), (.ref r1), (.int 3)] 8)) t := fun t k => castTop (eff3 m r0 r1) k
  obtain ⟨T101, h101, k101, X101, e101, E101, A101, st101⟩ := newP X0 hx hZ (own_w hw 1 rfl) e0 (g := (mkF m 1 #[oR r0, oR r1, oI 3, oU, oU, oU, oU, oU] [(.int 3)])) rfl (hb hby d1_1) rfl (by decide) (cap := 3) (by decide) (by decide) (by decide) (by decide)
  obtain ⟨b101, g101⟩ : ∃ z, z = h0.size := ⟨_, rfl⟩
  rw [← g101] at A101 st101
  have g_b101 : n0 ≤ b101 := Nat.le_trans Z0 (Nat.le_of_eq g101.symm)
  have sz_b101 : h0.size ≤ b101 := Nat.le_trans (Keep.refl h0 [r0]).1 (Nat.le_of_eq g101.symm)
  have ZZ102 : n0 ≤ h101.size := Nat.le_trans Z0 E101.1
  have KK103 : Keep h0 h101 [r0] := (Keep.refl h0 [r0]).ext E101
  have V_b101 : Arv Z h101 b101 k101 .int (3 : Int32) [(.int 0), (.int 0), (.int 0)] (.int 0) := (Arv.new A101 (by decide)).pad (pad_rep [] (.int 0) 3)
  obtain ⟨cl104, Ar104, qk104, Sz104, Nz104, Hh104, Gg104⟩ := id (V_r0.ext E101)
  obtain ⟨cl105, Ar105, qk105, Sz105, Nz105, Hh105, Gg105⟩ := id (V_r0.ext E101)
  have hin106 : ¬ ((0 : Int32) < 0 ∨ cl105.slots.size ≤ ((0 : Int32)).toNatClampNeg) := inb_of Sz105 ⟨by decide, by decide⟩
  have hat106 : cl105.slots[((0 : Int32)).toNatClampNeg]? = some (.int ma0) := Has.at Hh105 hin106 rfl
  obtain ⟨cl107, Ar107, qk107, Sz107, Nz107, Hh107, Gg107⟩ := id V_b101
  have hin108 : ¬ (ma0 < 0 ∨ cl107.slots.size ≤ (ma0).toNatClampNeg) := inb_of Sz107 (own_b3 ra0)
  have hat108 : cl107.slots[(ma0).toNatClampNeg]? = some (.int (own_at (0 : Int32) (0 : Int32) (0 : Int32) ma0)) := Has.at Hh107 hin108 (own_g3 ra0)
  obtain ⟨cc00, hcc00⟩ : ∃ zz, zz = own_p 0 ma0 ((own_at (0 : Int32) (0 : Int32) (0 : Int32) ma0) + (1 : Int32)) (0 : Int32) := ⟨_, rfl⟩
  obtain ⟨cc01, hcc01⟩ : ∃ zz, zz = own_p 1 ma0 ((own_at (0 : Int32) (0 : Int32) (0 : Int32) ma0) + (1 : Int32)) (0 : Int32) := ⟨_, rfl⟩
  obtain ⟨cc02, hcc02⟩ : ∃ zz, zz = own_p 2 ma0 ((own_at (0 : Int32) (0 : Int32) (0 : Int32) ma0) + (1 : Int32)) (0 : Int32) := ⟨_, rfl⟩
  have hin109 : ¬ (ma0 < 0 ∨ cl107.slots.size ≤ (ma0).toNatClampNeg) := inb_of Sz107 (own_b3 ra0)
  obtain ⟨T110, h110, X110, e110, W110, st110⟩ := stI X101 hx hZ e101 Ar107 (j := ma0) hin109 (g := (mkF m 36 #[oR r0, oR r1, oI 3, oR b101, oR r0, oI 3, oI 0, oI ma0] [(.int ((own_at (0 : Int32) (0 : Int32) (0 : Int32) ma0) + (1 : Int32))), (.int ma0), (.ref b101)])) rfl rfl (hb hby d1_36)
  have Va110 := Arv.set Ar107 qk107 Sz107 Nz107 Hh107 Gg107 rfl W110 (ma0).toNatClampNeg rfl (own_l3 ra0)
  have Vs110 : Arv Z h110 b101 k101 .int (3 : Int32) [(.int cc00), (.int cc01), (.int cc02)] (.int 0) := by rw [← (by rw [hcc00, hcc01, hcc02]; exact own_s3 ra0 : ([(.int 0), (.int 0), (.int 0)] : List Value).set (ma0).toNatClampNeg (.int ((own_at (0 : Int32) (0 : Int32) (0 : Int32) ma0) + (1 : Int32))) = [(.int cc00), (.int cc01), (.int cc02)])]; exact Va110
  have N110 := Fr.snoc X110 N0 g_b101
  have ZZ111 : n0 ≤ h110.size := Nat.le_trans ZZ102 (Nat.le_of_eq W110.size.symm)
  have KK112 : Keep h0 h110 [r0] := KK103.wr W110 (Or.inr sz_b101)
  have Fc113 := ((V_r0.ext E101).other W110 (Nat.ne_of_lt (Nat.lt_of_lt_of_le V_r0.lt (Nat.le_of_eq g101.symm))))
  obtain ⟨cl114, Ar114, qk114, Sz114, Nz114, Hh114, Gg114⟩ := id Fc113
  have hin115 : ¬ ((1 : Int32) < 0 ∨ cl114.slots.size ≤ ((1 : Int32)).toNatClampNeg) := inb_of Sz114 ⟨by decide, by decide⟩
  have hat115 : cl114.slots[((1 : Int32)).toNatClampNeg]? = some (.int ma1) := Has.at Hh114 hin115 rfl
  obtain ⟨cl116, Ar116, qk116, Sz116, Nz116, Hh116, Gg116⟩ := id Vs110
  have hin117 : ¬ (ma1 < 0 ∨ cl116.slots.size ≤ (ma1).toNatClampNeg) := inb_of Sz116 (own_b3 ra1)
  have hat117 : cl116.slots[(ma1).toNatClampNeg]? = some (.int (own_at cc00 cc01 cc02 ma1)) := Has.at Hh116 hin117 (own_g3 ra1)
  obtain ⟨cc10, hcc10⟩ : ∃ zz, zz = own_p 0 ma1 ((own_at cc00 cc01 cc02 ma1) + (1 : Int32)) cc00 := ⟨_, rfl⟩
  obtain ⟨cc11, hcc11⟩ : ∃ zz, zz = own_p 1 ma1 ((own_at cc00 cc01 cc02 ma1) + (1 : Int32)) cc01 := ⟨_, rfl⟩
  obtain ⟨cc12, hcc12⟩ : ∃ zz, zz = own_p 2 ma1 ((own_at cc00 cc01 cc02 ma1) + (1 : Int32)) cc02 := ⟨_, rfl⟩
  have hin118 : ¬ (ma1 < 0 ∨ cl116.slots.size ≤ (ma1).toNatClampNeg) := inb_of Sz116 (own_b3 ra1)
  obtain ⟨T119, h119, X119, e119, W119, st119⟩ := stI X110 hx hZ e110 Ar116 (j := ma1) hin118 (g := (mkF m 36 #[oR r0, oR r1, oI 3, oR b101, oR r0, oI 3, oI 1, oI ma1] [(.int ((own_at cc00 cc01 cc02 ma1) + (1 : Int32))), (.int ma1), (.ref b101)])) rfl rfl (hb hby d1_36)
  have Va119 := Arv.set Ar116 qk116 Sz116 Nz116 Hh116 Gg116 rfl W119 (ma1).toNatClampNeg rfl (own_l3 ra1)
  have Vs119 : Arv Z h119 b101 k101 .int (3 : Int32) [(.int cc10), (.int cc11), (.int cc12)] (.int 0) := by rw [← (by rw [hcc10, hcc11, hcc12]; exact own_s3 ra1 : ([(.int cc00), (.int cc01), (.int cc02)] : List Value).set (ma1).toNatClampNeg (.int ((own_at cc00 cc01 cc02 ma1) + (1 : Int32))) = [(.int cc10), (.int cc11), (.int cc12)])]; exact Va119
  have N119 := Fr.snoc X119 N110 g_b101
  have ZZ120 : n0 ≤ h119.size := Nat.le_trans ZZ111 (Nat.le_of_eq W119.size.symm)
  have KK121 : Keep h0 h119 [r0] := KK112.wr W119 (Or.inr sz_b101)
  have Fc122 := (Fc113.other W119 (Nat.ne_of_lt (Nat.lt_of_lt_of_le V_r0.lt (Nat.le_of_eq g101.symm))))
  obtain ⟨cl123, Ar123, qk123, Sz123, Nz123, Hh123, Gg123⟩ := id Fc122
  have hin124 : ¬ ((2 : Int32) < 0 ∨ cl123.slots.size ≤ ((2 : Int32)).toNatClampNeg) := inb_of Sz123 ⟨by decide, by decide⟩
  have hat124 : cl123.slots[((2 : Int32)).toNatClampNeg]? = some (.int ma2) := Has.at Hh123 hin124 rfl
  obtain ⟨cl125, Ar125, qk125, Sz125, Nz125, Hh125, Gg125⟩ := id Vs119
  have hin126 : ¬ (ma2 < 0 ∨ cl125.slots.size ≤ (ma2).toNatClampNeg) := inb_of Sz125 (own_b3 ra2)
  have hat126 : cl125.slots[(ma2).toNatClampNeg]? = some (.int (own_at cc10 cc11 cc12 ma2)) := Has.at Hh125 hin126 (own_g3 ra2)
  obtain ⟨cc20, hcc20⟩ : ∃ zz, zz = own_p 0 ma2 ((own_at cc10 cc11 cc12 ma2) + (1 : Int32)) cc10 := ⟨_, rfl⟩
  obtain ⟨cc21, hcc21⟩ : ∃ zz, zz = own_p 1 ma2 ((own_at cc10 cc11 cc12 ma2) + (1 : Int32)) cc11 := ⟨_, rfl⟩
  obtain ⟨cc22, hcc22⟩ : ∃ zz, zz = own_p 2 ma2 ((own_at cc10 cc11 cc12 ma2) + (1 : Int32)) cc12 := ⟨_, rfl⟩
  have hin127 : ¬ (ma2 < 0 ∨ cl125.slots.size ≤ (ma2).toNatClampNeg) := inb_of Sz125 (own_b3 ra2)
  obtain ⟨T128, h128, X128, e128, W128, st128⟩ := stI X119 hx hZ e119 Ar125 (j := ma2) hin127 (g := (mkF m 36 #[oR r0, oR r1, oI 3, oR b101, oR r0, oI 3, oI 2, oI ma2] [(.int ((own_at cc10 cc11 cc12 ma2) + (1 : Int32))), (.int ma2), (.ref b101)])) rfl rfl (hb hby d1_36)
  have Va128 := Arv.set Ar125 qk125 Sz125 Nz125 Hh125 Gg125 rfl W128 (ma2).toNatClampNeg rfl (own_l3 ra2)
  have Vs128 : Arv Z h128 b101 k101 .int (3 : Int32) [(.int cc20), (.int cc21), (.int cc22)] (.int 0) := by rw [← (by rw [hcc20, hcc21, hcc22]; exact own_s3 ra2 : ([(.int cc10), (.int cc11), (.int cc12)] : List Value).set (ma2).toNatClampNeg (.int ((own_at cc10 cc11 cc12 ma2) + (1 : Int32))) = [(.int cc20), (.int cc21), (.int cc22)])]; exact Va128
  have N128 := Fr.snoc X128 N119 g_b101
  have ZZ129 : n0 ≤ h128.size := Nat.le_trans ZZ120 (Nat.le_of_eq W128.size.symm)
  have KK130 : Keep h0 h128 [r0] := KK121.wr W128 (Or.inr sz_b101)
  have H0 : own_F0 x y z ma0 ma1 ma2 = (⟨cc20, cc21, cc22, ma0, ma1, ma2, 0⟩ : own_St) := by rw [hcc20, hcc21, hcc22, hcc10, hcc11, hcc12, hcc00, hcc01, hcc02]; rfl
  obtain ⟨cl131, Ar131, qk131, Sz131, Nz131, Hh131, Gg131⟩ := id Vs128
  have hin132 : ¬ ((0 : Int32) < 0 ∨ cl131.slots.size ≤ ((0 : Int32)).toNatClampNeg) := inb_of Sz131 ⟨by decide, by decide⟩
  have hat132 : cl131.slots[((0 : Int32)).toNatClampNeg]? = some (.int cc20) := Has.at Hh131 hin132 rfl
  have pre133 : ∀ t, Steps p.tables e below (T128.setTop (mkF m 59 #[oR r0, oR r1, oI 3, oR b101, oI 0, oI 0, oI 3, oI ma2] [(.int cc20)])) t → Steps p.tables e below (s₁.setTop (mkF m 0 #[oR r0, oR r1, oI 3, oU, oU, oU, oU, oU] [])) t := by
    intro t kt
    show own_S p e below s₁ m 0 #[oR r0, oR r1, oI 3, oU, oU, oU, oU, oU] [] _
    refine XS.iloadN X0.here hx rfl (hb hby d1_0) rfl ?_
    show own_S p e below s₁ m 1 _ [(.int 3)] _
    refine st101 _ ?_
    show own_S p e below T101 m 3 _ [(.ref b101)] _
    refine XS.astoreN X101.here hx rfl (hb hby d1_3) rfl rfl (l' := #[oR r0, oR r1, oI 3, oR b101, oU, oU, oU, oU]) rfl ?_
    show own_S p e below T101 m 4 #[oR r0, oR r1, oI 3, oR b101, oU, oU, oU, oU] [] _
    refine XS.aloadN X101.here hx rfl (hb hby d1_4) rfl rfl ?_
    show own_S p e below T101 m 5 _ [(.ref r0)] _
    refine XS.astore X101.here hx rfl (hb hby d1_5) rfl rfl (l' := #[oR r0, oR r1, oI 3, oR b101, oR r0, oU, oU, oU]) rfl ?_
    show own_S p e below T101 m 7 #[oR r0, oR r1, oI 3, oR b101, oR r0, oU, oU, oU] [] _
    refine XS.aload X101.here hx rfl (hb hby d1_7) rfl rfl ?_
    show own_S p e below T101 m 9 _ [(.ref r0)] _
    refine X101.arraylength hx (by rw [e101]; exact Ar104.1) (State.isArrayOf_alike hZ.alike Ar104.2.1) (g := (mkF m 9 #[oR r0, oR r1, oI 3, oR b101, oR r0, oU, oU, oU] [(.ref r0)])) rfl rfl (hb hby d1_9) _ ?_
    rw [len_of Sz104 Nz104]
    show own_S p e below T101 m 10 _ [(.int 3)] _
    refine XS.istore X101.here hx rfl (hb hby d1_10) rfl (l' := #[oR r0, oR r1, oI 3, oR b101, oR r0, oI 3, oU, oU]) rfl ?_
    show own_S p e below T101 m 12 #[oR r0, oR r1, oI 3, oR b101, oR r0, oI 3, oU, oU] [] _
    refine XS.iconst X101.here hx rfl (hb hby d1_12) ?_
    show own_S p e below T101 m 13 _ [(.int 0)] _
    refine XS.istore X101.here hx rfl (hb hby d1_13) rfl (l' := #[oR r0, oR r1, oI 3, oR b101, oR r0, oI 3, oI 0, oU]) rfl ?_
    show own_S p e below T101 m 15 #[oR r0, oR r1, oI 3, oR b101, oR r0, oI 3, oI 0, oU] [] _
    refine XS.iload X101.here hx rfl (hb hby d1_15) rfl ?_
    show own_S p e below T101 m 17 _ [(.int 0)] _
    refine XS.iload X101.here hx rfl (hb hby d1_17) rfl ?_
    show own_S p e below T101 m 19 _ [(.int 3), (.int 0)] _
    refine XS.icmpNo X101.here hx rfl (hb hby d1_19) rfl (tlt (by decide : (0 : Int32) < (3 : Int32))).2.1 ?_
    show own_S p e below T101 m 22 _ [] _
    refine XS.aload X101.here hx rfl (hb hby d1_22) rfl rfl ?_
    show own_S p e below T101 m 24 _ [(.ref r0)] _
    refine XS.iload X101.here hx rfl (hb hby d1_24) rfl ?_
    show own_S p e below T101 m 26 _ [(.int 0), (.ref r0)] _
    refine X101.iaload hx (j := (0 : Int32)) (v := (.int ma0)) (by rw [e101]; exact Ar105.1) (State.isArrayOf_alike hZ.alike Ar105.2.1) Ar105.2.2 hin106 hat106 (g := (mkF m 26 #[oR r0, oR r1, oI 3, oR b101, oR r0, oI 3, oI 0, oU] [(.int 0), (.ref r0)])) rfl rfl (hb hby d1_26) _ ?_
    show own_S p e below T101 m 27 _ [(.int ma0)] _
    refine XS.istore X101.here hx rfl (hb hby d1_27) rfl (l' := #[oR r0, oR r1, oI 3, oR b101, oR r0, oI 3, oI 0, oI ma0]) rfl ?_
    show own_S p e below T101 m 29 #[oR r0, oR r1, oI 3, oR b101, oR r0, oI 3, oI 0, oI ma0] [] _
    refine XS.aloadN X101.here hx rfl (hb hby d1_29) rfl rfl ?_
    show own_S p e below T101 m 30 _ [(.ref b101)] _
    refine XS.iload X101.here hx rfl (hb hby d1_30) rfl ?_
    show own_S p e below T101 m 32 _ [(.int ma0), (.ref b101)] _
    jvm_step X101.here [X101.here.top, hx, (hb hby d1_32), Value.category]
    show own_S p e below T101 m 33 #[oR r0, oR r1, oI 3, oR b101, oR r0, oI 3, oI 0, oI ma0] [(.int ma0), (.ref b101), (.int ma0), (.ref b101)] _
    refine X101.iaload hx (j := ma0) (v := (.int (own_at (0 : Int32) (0 : Int32) (0 : Int32) ma0))) (by rw [e101]; exact Ar107.1) (State.isArrayOf_alike hZ.alike Ar107.2.1) Ar107.2.2 hin108 hat108 (g := (mkF m 33 #[oR r0, oR r1, oI 3, oR b101, oR r0, oI 3, oI 0, oI ma0] [(.int ma0), (.ref b101), (.int ma0), (.ref b101)])) rfl rfl (hb hby d1_33) _ ?_
    show own_S p e below T101 m 34 _ [(.int (own_at (0 : Int32) (0 : Int32) (0 : Int32) ma0)), (.int ma0), (.ref b101)] _
    refine XS.iconst X101.here hx rfl (hb hby d1_34) ?_
    show own_S p e below T101 m 35 _ [(.int 1), (.int (own_at (0 : Int32) (0 : Int32) (0 : Int32) ma0)), (.int ma0), (.ref b101)] _
    refine XS.iadd X101.here hx rfl (hb hby d1_35) rfl ?_
    show own_S p e below T101 m 36 _ [(.int ((own_at (0 : Int32) (0 : Int32) (0 : Int32) ma0) + (1 : Int32))), (.int ma0), (.ref b101)] _
    refine st110 _ ?_
    show own_S p e below T110 m 37 _ [] _
    refine XS.iinc X110.here hx rfl (hb hby d1_37) rfl (l' := #[oR r0, oR r1, oI 3, oR b101, oR r0, oI 3, oI 1, oI ma0]) rfl ?_
    show own_S p e below T110 m 40 #[oR r0, oR r1, oI 3, oR b101, oR r0, oI 3, oI 1, oI ma0] [] _
    refine XS.goto X110.here hx rfl (pc0 := 40) (pc' := 15) rfl (hb hby d1_40) (by decide) (by decide) ?_
    show own_S p e below T110 m 15 _ [] _
    refine XS.iload X110.here hx rfl (hb hby d1_15) rfl ?_
    show own_S p e below T110 m 17 _ [(.int 1)] _
    refine XS.iload X110.here hx rfl (hb hby d1_17) rfl ?_
    show own_S p e below T110 m 19 _ [(.int 3), (.int 1)] _
    refine XS.icmpNo X110.here hx rfl (hb hby d1_19) rfl (tlt (by decide : (1 : Int32) < (3 : Int32))).2.1 ?_
    show own_S p e below T110 m 22 _ [] _
    refine XS.aload X110.here hx rfl (hb hby d1_22) rfl rfl ?_
    show own_S p e below T110 m 24 _ [(.ref r0)] _
    refine XS.iload X110.here hx rfl (hb hby d1_24) rfl ?_
    show own_S p e below T110 m 26 _ [(.int 1), (.ref r0)] _
    refine X110.iaload hx (j := (1 : Int32)) (v := (.int ma1)) (by rw [e110]; exact Ar114.1) (State.isArrayOf_alike hZ.alike Ar114.2.1) Ar114.2.2 hin115 hat115 (g := (mkF m 26 #[oR r0, oR r1, oI 3, oR b101, oR r0, oI 3, oI 1, oI ma0] [(.int 1), (.ref r0)])) rfl rfl (hb hby d1_26) _ ?_
    show own_S p e below T110 m 27 #[oR r0, oR r1, oI 3, oR b101, oR r0, oI 3, oI 1, oI ma0] [(.int ma1)] _
    refine XS.istore X110.here hx rfl (hb hby d1_27) rfl (l' := #[oR r0, oR r1, oI 3, oR b101, oR r0, oI 3, oI 1, oI ma1]) rfl ?_
    show own_S p e below T110 m 29 #[oR r0, oR r1, oI 3, oR b101, oR r0, oI 3, oI 1, oI ma1] [] _
    refine XS.aloadN X110.here hx rfl (hb hby d1_29) rfl rfl ?_
    show own_S p e below T110 m 30 _ [(.ref b101)] _
    refine XS.iload X110.here hx rfl (hb hby d1_30) rfl ?_
    show own_S p e below T110 m 32 _ [(.int ma1), (.ref b101)] _
    jvm_step X110.here [X110.here.top, hx, (hb hby d1_32), Value.category]
    show own_S p e below T110 m 33 #[oR r0, oR r1, oI 3, oR b101, oR r0, oI 3, oI 1, oI ma1] [(.int ma1), (.ref b101), (.int ma1), (.ref b101)] _
    refine X110.iaload hx (j := ma1) (v := (.int (own_at cc00 cc01 cc02 ma1))) (by rw [e110]; exact Ar116.1) (State.isArrayOf_alike hZ.alike Ar116.2.1) Ar116.2.2 hin117 hat117 (g := (mkF m 33 #[oR r0, oR r1, oI 3, oR b101, oR r0, oI 3, oI 1, oI ma1] [(.int ma1), (.ref b101), (.int ma1), (.ref b101)])) rfl rfl (hb hby d1_33) _ ?_
    show own_S p e below T110 m 34 _ [(.int (own_at cc00 cc01 cc02 ma1)), (.int ma1), (.ref b101)] _
    refine XS.iconst X110.here hx rfl (hb hby d1_34) ?_
    show own_S p e below T110 m 35 _ [(.int 1), (.int (own_at cc00 cc01 cc02 ma1)), (.int ma1), (.ref b101)] _
    refine XS.iadd X110.here hx rfl (hb hby d1_35) rfl ?_
    show own_S p e below T110 m 36 _ [(.int ((own_at cc00 cc01 cc02 ma1) + (1 : Int32))), (.int ma1), (.ref b101)] _
    refine st119 _ ?_
    show own_S p e below T119 m 37 _ [] _
    refine XS.iinc X119.here hx rfl (hb hby d1_37) rfl (l' := #[oR r0, oR r1, oI 3, oR b101, oR r0, oI 3, oI 2, oI ma1]) rfl ?_
    show own_S p e below T119 m 40 #[oR r0, oR r1, oI 3, oR b101, oR r0, oI 3, oI 2, oI ma1] [] _
    refine XS.goto X119.here hx rfl (pc0 := 40) (pc' := 15) rfl (hb hby d1_40) (by decide) (by decide) ?_
    show own_S p e below T119 m 15 _ [] _
    refine XS.iload X119.here hx rfl (hb hby d1_15) rfl ?_
    show own_S p e below T119 m 17 _ [(.int 2)] _
    refine XS.iload X119.here hx rfl (hb hby d1_17) rfl ?_
    show own_S p e below T119 m 19 _ [(.int 3), (.int 2)] _
    refine XS.icmpNo X119.here hx rfl (hb hby d1_19) rfl (tlt (by decide : (2 : Int32) < (3 : Int32))).2.1 ?_
    show own_S p e below T119 m 22 _ [] _
    refine XS.aload X119.here hx rfl (hb hby d1_22) rfl rfl ?_
    show own_S p e below T119 m 24 _ [(.ref r0)] _
    refine XS.iload X119.here hx rfl (hb hby d1_24) rfl ?_
    show own_S p e below T119 m 26 _ [(.int 2), (.ref r0)] _
    refine X119.iaload hx (j := (2 : Int32)) (v := (.int ma2)) (by rw [e119]; exact Ar123.1) (State.isArrayOf_alike hZ.alike Ar123.2.1) Ar123.2.2 hin124 hat124 (g := (mkF m 26 #[oR r0, oR r1, oI 3, oR b101, oR r0, oI 3, oI 2, oI ma1] [(.int 2), (.ref r0)])) rfl rfl (hb hby d1_26) _ ?_
    show own_S p e below T119 m 27 #[oR r0, oR r1, oI 3, oR b101, oR r0, oI 3, oI 2, oI ma1] [(.int ma2)] _
    refine XS.istore X119.here hx rfl (hb hby d1_27) rfl (l' := #[oR r0, oR r1, oI 3, oR b101, oR r0, oI 3, oI 2, oI ma2]) rfl ?_
    show own_S p e below T119 m 29 #[oR r0, oR r1, oI 3, oR b101, oR r0, oI 3, oI 2, oI ma2] [] _
    refine XS.aloadN X119.here hx rfl (hb hby d1_29) rfl rfl ?_
    show own_S p e below T119 m 30 _ [(.ref b101)] _
    refine XS.iload X119.here hx rfl (hb hby d1_30) rfl ?_
    show own_S p e below T119 m 32 _ [(.int ma2), (.ref b101)] _
    jvm_step X119.here [X119.here.top, hx, (hb hby d1_32), Value.category]
    show own_S p e below T119 m 33 #[oR r0, oR r1, oI 3, oR b101, oR r0, oI 3, oI 2, oI ma2] [(.int ma2), (.ref b101), (.int ma2), (.ref b101)] _
    refine X119.iaload hx (j := ma2) (v := (.int (own_at cc10 cc11 cc12 ma2))) (by rw [e119]; exact Ar125.1) (State.isArrayOf_alike hZ.alike Ar125.2.1) Ar125.2.2 hin126 hat126 (g := (mkF m 33 #[oR r0, oR r1, oI 3, oR b101, oR r0, oI 3, oI 2, oI ma2] [(.int ma2), (.ref b101), (.int ma2), (.ref b101)])) rfl rfl (hb hby d1_33) _ ?_
    show own_S p e below T119 m 34 _ [(.int (own_at cc10 cc11 cc12 ma2)), (.int ma2), (.ref b101)] _
    refine XS.iconst X119.here hx rfl (hb hby d1_34) ?_
    show own_S p e below T119 m 35 _ [(.int 1), (.int (own_at cc10 cc11 cc12 ma2)), (.int ma2), (.ref b101)] _
    refine XS.iadd X119.here hx rfl (hb hby d1_35) rfl ?_
    show own_S p e below T119 m 36 _ [(.int ((own_at cc10 cc11 cc12 ma2) + (1 : Int32))), (.int ma2), (.ref b101)] _
    refine st128 _ ?_
    show own_S p e below T128 m 37 _ [] _
    refine XS.iinc X128.here hx rfl (hb hby d1_37) rfl (l' := #[oR r0, oR r1, oI 3, oR b101, oR r0, oI 3, oI 3, oI ma2]) rfl ?_
    show own_S p e below T128 m 40 #[oR r0, oR r1, oI 3, oR b101, oR r0, oI 3, oI 3, oI ma2] [] _
    refine XS.goto X128.here hx rfl (pc0 := 40) (pc' := 15) rfl (hb hby d1_40) (by decide) (by decide) ?_
    show own_S p e below T128 m 15 _ [] _
    refine XS.iload X128.here hx rfl (hb hby d1_15) rfl ?_
    show own_S p e below T128 m 17 _ [(.int 3)] _
    refine XS.iload X128.here hx rfl (hb hby d1_17) rfl ?_
    show own_S p e below T128 m 19 _ [(.int 3), (.int 3)] _
    refine XS.icmpYes X128.here hx rfl (pc0 := 19) (pc' := 43) rfl (hb hby d1_19) rfl (flt (by decide : ¬ ((3 : Int32) < (3 : Int32)))).2.1 (by decide) (by decide) ?_
    show own_S p e below T128 m 43 _ [] _
    refine XS.iconst X128.here hx rfl (hb hby d1_43) ?_
    show own_S p e below T128 m 44 _ [(.int 0)] _
    refine XS.istore X128.here hx rfl (hb hby d1_44) rfl (l' := #[oR r0, oR r1, oI 3, oR b101, oI 0, oI 3, oI 3, oI ma2]) rfl ?_
    show own_S p e below T128 m 46 #[oR r0, oR r1, oI 3, oR b101, oI 0, oI 3, oI 3, oI ma2] [] _
    refine XS.iconst X128.here hx rfl (hb hby d1_46) ?_
    show own_S p e below T128 m 47 _ [(.int 0)] _
    refine XS.istore X128.here hx rfl (hb hby d1_47) rfl (l' := #[oR r0, oR r1, oI 3, oR b101, oI 0, oI 0, oI 3, oI ma2]) rfl ?_
    show own_S p e below T128 m 49 #[oR r0, oR r1, oI 3, oR b101, oI 0, oI 0, oI 3, oI ma2] [] _
    refine XS.iload X128.here hx rfl (hb hby d1_49) rfl ?_
    show own_S p e below T128 m 51 _ [(.int 0)] _
    refine XS.iloadN X128.here hx rfl (hb hby d1_51) rfl ?_
    show own_S p e below T128 m 52 _ [(.int 3), (.int 0)] _
    refine XS.icmpNo X128.here hx rfl (hb hby d1_52) rfl (tlt (by decide : (0 : Int32) < (3 : Int32))).2.1 ?_
    show own_S p e below T128 m 55 _ [] _
    refine XS.aloadN X128.here hx rfl (hb hby d1_55) rfl rfl ?_
    show own_S p e below T128 m 56 _ [(.ref b101)] _
    refine XS.iload X128.here hx rfl (hb hby d1_56) rfl ?_
    show own_S p e below T128 m 58 _ [(.int 0), (.ref b101)] _
    refine X128.iaload hx (j := (0 : Int32)) (v := (.int cc20)) (by rw [e128]; exact Ar131.1) (State.isArrayOf_alike hZ.alike Ar131.2.1) Ar131.2.2 hin132 hat132 (g := (mkF m 58 #[oR r0, oR r1, oI 3, oR b101, oI 0, oI 0, oI 3, oI ma2] [(.int 0), (.ref b101)])) rfl rfl (hb hby d1_58) _ ?_
    exact kt
  by_cases he0 : (0 : Int32) < cc20
  · skip
    have H1 : own_F1 x y z ma0 ma1 ma2 = (⟨cc20, cc21, cc22, ma0, ma1, ma2, (0 : Int32)⟩ : own_St) := own_F1p H0 he0
    have hin134 : ¬ ((1 : Int32) < 0 ∨ cl131.slots.size ≤ ((1 : Int32)).toNatClampNeg) := inb_of Sz131 ⟨by decide, by decide⟩
    have hat134 : cl131.slots[((1 : Int32)).toNatClampNeg]? = some (.int cc21) := Has.at Hh131 hin134 rfl
    have pre135 : ∀ t, Steps p.tables e below (T128.setTop (mkF m 59 #[oR r0, oR r1, oI 3, oR b101, oI 0, oI 1, oI 3, oI ma2] [(.int cc21)])) t → Steps p.tables e below (s₁.setTop (mkF m 0 #[oR r0, oR r1, oI 3, oU, oU, oU, oU, oU] [])) t := by
      intro t kt
      refine pre133 _ ?_
      show own_S p e below T128 m 59 #[oR r0, oR r1, oI 3, oR b101, oI 0, oI 0, oI 3, oI ma2] [(.int cc20)] _
      refine XS.ifNo X128.here hx rfl (hb hby d1_59) rfl ((if0 _ _).trans (tlt (he0 : (0 : Int32) < cc20)).2.2.2) ?_
      show own_S p e below T128 m 62 _ [] _
      refine XS.goto X128.here hx rfl (pc0 := 62) (pc' := 142) rfl (hb hby d1_62) (by decide) (by decide) ?_
      show own_S p e below T128 m 142 _ [] _
      refine XS.iinc X128.here hx rfl (hb hby d1_142) rfl (l' := #[oR r0, oR r1, oI 3, oR b101, oI 0, oI 1, oI 3, oI ma2]) rfl ?_
      show own_S p e below T128 m 145 #[oR r0, oR r1, oI 3, oR b101, oI 0, oI 1, oI 3, oI ma2] [] _
      refine XS.goto X128.here hx rfl (pc0 := 145) (pc' := 49) rfl (hb hby d1_145) (by decide) (by decide) ?_
      show own_S p e below T128 m 49 _ [] _
      refine XS.iload X128.here hx rfl (hb hby d1_49) rfl ?_
      show own_S p e below T128 m 51 _ [(.int 1)] _
      refine XS.iloadN X128.here hx rfl (hb hby d1_51) rfl ?_
      show own_S p e below T128 m 52 _ [(.int 3), (.int 1)] _
      refine XS.icmpNo X128.here hx rfl (hb hby d1_52) rfl (tlt (by decide : (1 : Int32) < (3 : Int32))).2.1 ?_
      show own_S p e below T128 m 55 _ [] _
      refine XS.aloadN X128.here hx rfl (hb hby d1_55) rfl rfl ?_
      show own_S p e below T128 m 56 _ [(.ref b101)] _
      refine XS.iload X128.here hx rfl (hb hby d1_56) rfl ?_
      show own_S p e below T128 m 58 _ [(.int 1), (.ref b101)] _
      refine X128.iaload hx (j := (1 : Int32)) (v := (.int cc21)) (by rw [e128]; exact Ar131.1) (State.isArrayOf_alike hZ.alike Ar131.2.1) Ar131.2.2 hin134 hat134 (g := (mkF m 58 #[oR r0, oR r1, oI 3, oR b101, oI 0, oI 1, oI 3, oI ma2] [(.int 1), (.ref b101)])) rfl rfl (hb hby d1_58) _ ?_
      exact kt
    by_cases he1 : (0 : Int32) < cc21
    · skip
      have H2 : own_F2 x y z ma0 ma1 ma2 = (⟨cc20, cc21, cc22, ma0, ma1, ma2, (0 : Int32)⟩ : own_St) := own_F2p H1 he1
      have hin136 : ¬ ((2 : Int32) < 0 ∨ cl131.slots.size ≤ ((2 : Int32)).toNatClampNeg) := inb_of Sz131 ⟨by decide, by decide⟩
      have hat136 : cl131.slots[((2 : Int32)).toNatClampNeg]? = some (.int cc22) := Has.at Hh131 hin136 rfl
      have pre137 : ∀ t, Steps p.tables e below (T128.setTop (mkF m 59 #[oR r0, oR r1, oI 3, oR b101, oI 0, oI 2, oI 3, oI ma2] [(.int cc22)])) t → Steps p.tables e below (s₁.setTop (mkF m 0 #[oR r0, oR r1, oI 3, oU, oU, oU, oU, oU] [])) t := by
        intro t kt
        refine pre135 _ ?_
        show own_S p e below T128 m 59 #[oR r0, oR r1, oI 3, oR b101, oI 0, oI 1, oI 3, oI ma2] [(.int cc21)] _
        refine XS.ifNo X128.here hx rfl (hb hby d1_59) rfl ((if0 _ _).trans (tlt (he1 : (0 : Int32) < cc21)).2.2.2) ?_
        show own_S p e below T128 m 62 _ [] _
        refine XS.goto X128.here hx rfl (pc0 := 62) (pc' := 142) rfl (hb hby d1_62) (by decide) (by decide) ?_
        show own_S p e below T128 m 142 _ [] _
        refine XS.iinc X128.here hx rfl (hb hby d1_142) rfl (l' := #[oR r0, oR r1, oI 3, oR b101, oI 0, oI 2, oI 3, oI ma2]) rfl ?_
        show own_S p e below T128 m 145 #[oR r0, oR r1, oI 3, oR b101, oI 0, oI 2, oI 3, oI ma2] [] _
        refine XS.goto X128.here hx rfl (pc0 := 145) (pc' := 49) rfl (hb hby d1_145) (by decide) (by decide) ?_
        show own_S p e below T128 m 49 _ [] _
        refine XS.iload X128.here hx rfl (hb hby d1_49) rfl ?_
        show own_S p e below T128 m 51 _ [(.int 2)] _
        refine XS.iloadN X128.here hx rfl (hb hby d1_51) rfl ?_
        show own_S p e below T128 m 52 _ [(.int 3), (.int 2)] _
        refine XS.icmpNo X128.here hx rfl (hb hby d1_52) rfl (tlt (by decide : (2 : Int32) < (3 : Int32))).2.1 ?_
        show own_S p e below T128 m 55 _ [] _
        refine XS.aloadN X128.here hx rfl (hb hby d1_55) rfl rfl ?_
        show own_S p e below T128 m 56 _ [(.ref b101)] _
        refine XS.iload X128.here hx rfl (hb hby d1_56) rfl ?_
        show own_S p e below T128 m 58 _ [(.int 2), (.ref b101)] _
        refine X128.iaload hx (j := (2 : Int32)) (v := (.int cc22)) (by rw [e128]; exact Ar131.1) (State.isArrayOf_alike hZ.alike Ar131.2.1) Ar131.2.2 hin136 hat136 (g := (mkF m 58 #[oR r0, oR r1, oI 3, oR b101, oI 0, oI 2, oI 3, oI ma2] [(.int 2), (.ref b101)])) rfl rfl (hb hby d1_58) _ ?_
        exact kt
      by_cases he2 : (0 : Int32) < cc22
      · skip
        have H3 : own_F3 x y z ma0 ma1 ma2 = (⟨cc20, cc21, cc22, ma0, ma1, ma2, (0 : Int32)⟩ : own_St) := own_F3p H2 he2
        obtain ⟨fs, hr, hrun, hended, hW, hsame⟩ := X128.leave (v := some (.int 0)) (fun h => by rw [Bd.returns] at h; cases h)
        refine ⟨_, _, pre0 _ (pre137 _ ?_), hrun, hended, _, _, rfl, ?_, ⟨_, rfl⟩, hW, hsame.mono (by decide) (by decide)⟩
        · show own_S p e below T128 m 59 #[oR r0, oR r1, oI 3, oR b101, oI 0, oI 2, oI 3, oI ma2] [(.int cc22)] _
          refine XS.ifNo X128.here hx rfl (hb hby d1_59) rfl ((if0 _ _).trans (tlt (he2 : (0 : Int32) < cc22)).2.2.2) ?_
          show own_S p e below T128 m 62 _ [] _
          refine XS.goto X128.here hx rfl (pc0 := 62) (pc' := 142) rfl (hb hby d1_62) (by decide) (by decide) ?_
          show own_S p e below T128 m 142 _ [] _
          refine XS.iinc X128.here hx rfl (hb hby d1_142) rfl (l' := #[oR r0, oR r1, oI 3, oR b101, oI 0, oI 3, oI 3, oI ma2]) rfl ?_
          show own_S p e below T128 m 145 #[oR r0, oR r1, oI 3, oR b101, oI 0, oI 3, oI 3, oI ma2] [] _
          refine XS.goto X128.here hx rfl (pc0 := 145) (pc' := 49) rfl (hb hby d1_145) (by decide) (by decide) ?_
          show own_S p e below T128 m 49 _ [] _
          refine XS.iload X128.here hx rfl (hb hby d1_49) rfl ?_
          show own_S p e below T128 m 51 _ [(.int 3)] _
          refine XS.iloadN X128.here hx rfl (hb hby d1_51) rfl ?_
          show own_S p e below T128 m 52 _ [(.int 3), (.int 3)] _
          refine XS.icmpYes X128.here hx rfl (pc0 := 52) (pc' := 148) rfl (hb hby d1_52) rfl (flt (by decide : ¬ ((3 : Int32) < (3 : Int32)))).2.1 (by decide) (by decide) ?_
          show own_S p e below T128 m 148 _ [] _
          refine XS.iload X128.here hx rfl (hb hby d1_148) rfl ?_
          show own_S p e below T128 m 150 _ [(.int 0)] _
          exact retN X128 hx (t := .boolean) Bd.returns (by simp) (hb hby d1_150) hr
        · show Qf3 Z r0 r1 ka kb ma0 ma1 ma2 f0 f1 f2 x y z h0 n0 _ T128.heap _
          rw [e128]
          exact ⟨ma0, ma1, ma2, (0 : Int32), rfl, N128, KK130, (Fc122.other W128 (Nat.ne_of_lt (Nat.lt_of_lt_of_le V_r0.lt (Nat.le_of_eq g101.symm)))), (by rw [H3]; exact ⟨rfl, rfl, rfl, rfl⟩)⟩
      · skip
        obtain ⟨w1fft_, hw1fft_⟩ : ∃ zz, zz = own_w1 (own_at cc20 cc21 cc22 ma0) := ⟨_, rfl⟩
        obtain ⟨w2fft_, hw2fft_⟩ : ∃ zz, zz = own_w2 x (own_at cc20 cc21 cc22 ma1) w1fft_ := ⟨_, rfl⟩
        obtain ⟨w3fft_, hw3fft_⟩ : ∃ zz, zz = own_w3 y z (own_at cc20 cc21 cc22 ma2) w2fft_ := ⟨_, rfl⟩
        obtain ⟨mwfft_, hmwfft_⟩ : ∃ zz, zz = own_at ma0 ma1 ma2 w3fft_ := ⟨_, rfl⟩
        obtain ⟨d0fft_, hd0fft_⟩ : ∃ zz, zz = own_p 0 mwfft_ ((own_at cc20 cc21 cc22 mwfft_) - (1 : Int32)) cc20 := ⟨_, rfl⟩
        obtain ⟨d1fft_, hd1fft_⟩ : ∃ zz, zz = own_p 1 mwfft_ ((own_at cc20 cc21 cc22 mwfft_) - (1 : Int32)) cc21 := ⟨_, rfl⟩
        obtain ⟨d2fft_, hd2fft_⟩ : ∃ zz, zz = own_p 2 mwfft_ ((own_at cc20 cc21 cc22 mwfft_) - (1 : Int32)) cc22 := ⟨_, rfl⟩
        obtain ⟨n0fft_, hn0fft_⟩ : ∃ zz, zz = own_p 0 w3fft_ (2 : Int32) ma0 := ⟨_, rfl⟩
        obtain ⟨n1fft_, hn1fft_⟩ : ∃ zz, zz = own_p 1 w3fft_ (2 : Int32) ma1 := ⟨_, rfl⟩
        obtain ⟨n2fft_, hn2fft_⟩ : ∃ zz, zz = own_p 2 w3fft_ (2 : Int32) ma2 := ⟨_, rfl⟩
        have hWw3fft_ : (w3fft_ = 0 ∨ w3fft_ = 1 ∨ w3fft_ = 2) := by
          have q := own_L32 x y z ra0 ra1 ra2
          rw [H2, own_worstE hw1fft_ hw2fft_ hw3fft_] at q
          exact q he2
        have hRmwfft_ : (mwfft_ = 0 ∨ mwfft_ = 1 ∨ mwfft_ = 2) := by rw [hmwfft_]; exact own_atr (P := fun i => (i = 0 ∨ i = 1 ∨ i = 2)) ra0 ra1 ra2
        have hRn0fft_ : (n0fft_ = 0 ∨ n0fft_ = 1 ∨ n0fft_ = 2) := by rw [hn0fft_]; exact own_pr (P := fun i => (i = 0 ∨ i = 1 ∨ i = 2)) (by decide) ra0
        have hRn1fft_ : (n1fft_ = 0 ∨ n1fft_ = 1 ∨ n1fft_ = 2) := by rw [hn1fft_]; exact own_pr (P := fun i => (i = 0 ∨ i = 1 ∨ i = 2)) (by decide) ra1
        have hRn2fft_ : (n2fft_ = 0 ∨ n2fft_ = 1 ∨ n2fft_ = 2) := by rw [hn2fft_]; exact own_pr (P := fun i => (i = 0 ∨ i = 1 ∨ i = 2)) (by decide) ra2
        have H3 : own_F3 x y z ma0 ma1 ma2 = (⟨d0fft_, d1fft_, (d2fft_ + (1 : Int32)), n0fft_, n1fft_, n2fft_, (1 : Int32)⟩ : own_St) := own_F3u H2 he2 hw1fft_ hw2fft_ hw3fft_ hmwfft_ hd0fft_ hd1fft_ hd2fft_ hn0fft_ hn1fft_ hn2fft_
        have Fc138 := (Fc122.other W128 (Nat.ne_of_lt (Nat.lt_of_lt_of_le V_r0.lt (Nat.le_of_eq g101.symm))))
        obtain ⟨cl139, Ar139, qk139, Sz139, Nz139, Hh139, Gg139⟩ := id Fc138
        have hin140 : ¬ ((0 : Int32) < 0 ∨ cl139.slots.size ≤ ((0 : Int32)).toNatClampNeg) := inb_of Sz139 ⟨by decide, by decide⟩
        have hat140 : cl139.slots[((0 : Int32)).toNatClampNeg]? = some (.int ma0) := Has.at Hh139 hin140 rfl
        have hin141 : ¬ (ma0 < 0 ∨ cl131.slots.size ≤ (ma0).toNatClampNeg) := inb_of Sz131 (own_b3 ra0)
        have hat141 : cl131.slots[(ma0).toNatClampNeg]? = some (.int (own_at cc20 cc21 cc22 ma0)) := Has.at Hh131 hin141 (own_g3 ra0)
        have pre142 : ∀ t, Steps p.tables e below (T128.setTop (mkF m 85 #[oR r0, oR r1, oI 3, oR b101, oI 0, oI 2, oI (-1), oI 0] [(.int 1), (.int (own_at cc20 cc21 cc22 ma0))])) t → Steps p.tables e below (s₁.setTop (mkF m 0 #[oR r0, oR r1, oI 3, oU, oU, oU, oU, oU] [])) t := by
          intro t kt
          refine pre137 _ ?_
          show own_S p e below T128 m 59 #[oR r0, oR r1, oI 3, oR b101, oI 0, oI 2, oI 3, oI ma2] [(.int cc22)] _
          refine XS.ifYes X128.here hx rfl (pc0 := 59) (pc' := 65) rfl (hb hby d1_59) rfl ((if0 _ _).trans (flt (he2 : ¬ ((0 : Int32) < cc22))).2.2.2) (by decide) (by decide) ?_
          show own_S p e below T128 m 65 _ [] _
          refine XS.iconst X128.here hx rfl (hb hby d1_65) ?_
          show own_S p e below T128 m 66 _ [(.int (-1))] _
          refine XS.istore X128.here hx rfl (hb hby d1_66) rfl (l' := #[oR r0, oR r1, oI 3, oR b101, oI 0, oI 2, oI (-1), oI ma2]) rfl ?_
          show own_S p e below T128 m 68 #[oR r0, oR r1, oI 3, oR b101, oI 0, oI 2, oI (-1), oI ma2] [] _
          refine XS.iconst X128.here hx rfl (hb hby d1_68) ?_
          show own_S p e below T128 m 69 _ [(.int 0)] _
          refine XS.istore X128.here hx rfl (hb hby d1_69) rfl (l' := #[oR r0, oR r1, oI 3, oR b101, oI 0, oI 2, oI (-1), oI 0]) rfl ?_
          show own_S p e below T128 m 71 #[oR r0, oR r1, oI 3, oR b101, oI 0, oI 2, oI (-1), oI 0] [] _
          refine XS.iload X128.here hx rfl (hb hby d1_71) rfl ?_
          show own_S p e below T128 m 73 _ [(.int 0)] _
          refine XS.aloadN X128.here hx rfl (hb hby d1_73) rfl rfl ?_
          show own_S p e below T128 m 74 _ [(.ref r0), (.int 0)] _
          refine X128.arraylength hx (by rw [e128]; exact Ar139.1) (State.isArrayOf_alike hZ.alike Ar139.2.1) (g := (mkF m 74 #[oR r0, oR r1, oI 3, oR b101, oI 0, oI 2, oI (-1), oI 0] [(.ref r0), (.int 0)])) rfl rfl (hb hby d1_74) _ ?_
          rw [len_of Sz139 Nz139]
          show own_S p e below T128 m 75 _ [(.int 3), (.int 0)] _
          refine XS.icmpNo X128.here hx rfl (hb hby d1_75) rfl (tlt (by decide : (0 : Int32) < (3 : Int32))).2.1 ?_
          show own_S p e below T128 m 78 _ [] _
          refine XS.aloadN X128.here hx rfl (hb hby d1_78) rfl rfl ?_
          show own_S p e below T128 m 79 _ [(.ref b101)] _
          refine XS.aloadN X128.here hx rfl (hb hby d1_79) rfl rfl ?_
          show own_S p e below T128 m 80 _ [(.ref r0), (.ref b101)] _
          refine XS.iload X128.here hx rfl (hb hby d1_80) rfl ?_
          show own_S p e below T128 m 82 #[oR r0, oR r1, oI 3, oR b101, oI 0, oI 2, oI (-1), oI 0] [(.int 0), (.ref r0), (.ref b101)] _
          refine X128.iaload hx (j := (0 : Int32)) (v := (.int ma0)) (by rw [e128]; exact Ar139.1) (State.isArrayOf_alike hZ.alike Ar139.2.1) Ar139.2.2 hin140 hat140 (g := (mkF m 82 #[oR r0, oR r1, oI 3, oR b101, oI 0, oI 2, oI (-1), oI 0] [(.int 0), (.ref r0), (.ref b101)])) rfl rfl (hb hby d1_82) _ ?_
          show own_S p e below T128 m 83 _ [(.int ma0), (.ref b101)] _
          refine X128.iaload hx (j := ma0) (v := (.int (own_at cc20 cc21 cc22 ma0))) (by rw [e128]; exact Ar131.1) (State.isArrayOf_alike hZ.alike Ar131.2.1) Ar131.2.2 hin141 hat141 (g := (mkF m 83 #[oR r0, oR r1, oI 3, oR b101, oI 0, oI 2, oI (-1), oI 0] [(.int ma0), (.ref b101)])) rfl rfl (hb hby d1_83) _ ?_
          show own_S p e below T128 m 84 _ [(.int (own_at cc20 cc21 cc22 ma0))] _
          refine XS.iconst X128.here hx rfl (hb hby d1_84) ?_
          exact kt
        have pre143 : ∀ t, Steps p.tables e below (T128.setTop (mkF m 109 #[oR r0, oR r1, oI 3, oR b101, oI 0, oI 2, oI w1fft_, oI 0] [])) t → Steps p.tables e below (s₁.setTop (mkF m 0 #[oR r0, oR r1, oI 3, oU, oU, oU, oU, oU] [])) t := by
          intro t kt
          refine pre142 _ ?_
          show own_S p e below T128 m 85 #[oR r0, oR r1, oI 3, oR b101, oI 0, oI 2, oI (-1), oI 0] [(.int 1), (.int (own_at cc20 cc21 cc22 ma0))] _
          by_cases hj : (1 : Int32) < (own_at cc20 cc21 cc22 ma0)
          · skip
            refine XS.icmpNo X128.here hx rfl (hb hby d1_85) rfl (tlt (hj : (1 : Int32) < (own_at cc20 cc21 cc22 ma0))).2.2.2 ?_
            show own_S p e below T128 m 88 #[oR r0, oR r1, oI 3, oR b101, oI 0, oI 2, oI (-1), oI 0] [] _
            refine XS.iload X128.here hx rfl (hb hby d1_88) rfl ?_
            show own_S p e below T128 m 90 _ [(.int (-1))] _
            refine XS.ifYes X128.here hx rfl (pc0 := 90) (pc' := 105) rfl (hb hby d1_90) rfl ((if0 _ _).trans (tlt (by decide : (-1 : Int32) < (0 : Int32))).1) (by decide) (by decide) ?_
            show own_S p e below T128 m 105 _ [] _
            refine XS.iload X128.here hx rfl (hb hby d1_105) rfl ?_
            show own_S p e below T128 m 107 _ [(.int 0)] _
            refine XS.istore X128.here hx rfl (hb hby d1_107) rfl (l' := #[oR r0, oR r1, oI 3, oR b101, oI 0, oI 2, oI 0, oI 0]) rfl ?_
            rw [(hw1fft_.trans (if_pos hj) : w1fft_ = (0 : Int32))] at kt
            exact kt
          · skip
            refine XS.icmpYes X128.here hx rfl (pc0 := 85) (pc' := 109) rfl (hb hby d1_85) rfl (flt (hj : ¬ ((1 : Int32) < (own_at cc20 cc21 cc22 ma0)))).2.2.2 (by decide) (by decide) ?_
            rw [(hw1fft_.trans (if_neg hj) : w1fft_ = (-1 : Int32))] at kt
            exact kt
        have hin144 : ¬ ((1 : Int32) < 0 ∨ cl139.slots.size ≤ ((1 : Int32)).toNatClampNeg) := inb_of Sz139 ⟨by decide, by decide⟩
        have hat144 : cl139.slots[((1 : Int32)).toNatClampNeg]? = some (.int ma1) := Has.at Hh139 hin144 rfl
        have hin145 : ¬ (ma1 < 0 ∨ cl131.slots.size ≤ (ma1).toNatClampNeg) := inb_of Sz131 (own_b3 ra1)
        have hat145 : cl131.slots[(ma1).toNatClampNeg]? = some (.int (own_at cc20 cc21 cc22 ma1)) := Has.at Hh131 hin145 (own_g3 ra1)
        have pre146 : ∀ t, Steps p.tables e below (T128.setTop (mkF m 85 #[oR r0, oR r1, oI 3, oR b101, oI 0, oI 2, oI w1fft_, oI 1] [(.int 1), (.int (own_at cc20 cc21 cc22 ma1))])) t → Steps p.tables e below (s₁.setTop (mkF m 0 #[oR r0, oR r1, oI 3, oU, oU, oU, oU, oU] [])) t := by
          intro t kt
          refine pre143 _ ?_
          show own_S p e below T128 m 109 #[oR r0, oR r1, oI 3, oR b101, oI 0, oI 2, oI w1fft_, oI 0] [] _
          refine XS.iinc X128.here hx rfl (hb hby d1_109) rfl (l' := #[oR r0, oR r1, oI 3, oR b101, oI 0, oI 2, oI w1fft_, oI 1]) rfl ?_
          show own_S p e below T128 m 112 #[oR r0, oR r1, oI 3, oR b101, oI 0, oI 2, oI w1fft_, oI 1] [] _
          refine XS.goto X128.here hx rfl (pc0 := 112) (pc' := 71) rfl (hb hby d1_112) (by decide) (by decide) ?_
          show own_S p e below T128 m 71 _ [] _
          refine XS.iload X128.here hx rfl (hb hby d1_71) rfl ?_
          show own_S p e below T128 m 73 _ [(.int 1)] _
          refine XS.aloadN X128.here hx rfl (hb hby d1_73) rfl rfl ?_
          show own_S p e below T128 m 74 _ [(.ref r0), (.int 1)] _
          refine X128.arraylength hx (by rw [e128]; exact Ar139.1) (State.isArrayOf_alike hZ.alike Ar139.2.1) (g := (mkF m 74 #[oR r0, oR r1, oI 3, oR b101, oI 0, oI 2, oI w1fft_, oI 1] [(.ref r0), (.int 1)])) rfl rfl (hb hby d1_74) _ ?_
          rw [len_of Sz139 Nz139]
          show own_S p e below T128 m 75 _ [(.int 3), (.int 1)] _
          refine XS.icmpNo X128.here hx rfl (hb hby d1_75) rfl (tlt (by decide : (1 : Int32) < (3 : Int32))).2.1 ?_
          show own_S p e below T128 m 78 _ [] _
          refine XS.aloadN X128.here hx rfl (hb hby d1_78) rfl rfl ?_
          show own_S p e below T128 m 79 _ [(.ref b101)] _
          refine XS.aloadN X128.here hx rfl (hb hby d1_79) rfl rfl ?_
          show own_S p e below T128 m 80 #[oR r0, oR r1, oI 3, oR b101, oI 0, oI 2, oI w1fft_, oI 1] [(.ref r0), (.ref b101)] _
          refine XS.iload X128.here hx rfl (hb hby d1_80) rfl ?_
          show own_S p e below T128 m 82 _ [(.int 1), (.ref r0), (.ref b101)] _
          refine X128.iaload hx (j := (1 : Int32)) (v := (.int ma1)) (by rw [e128]; exact Ar139.1) (State.isArrayOf_alike hZ.alike Ar139.2.1) Ar139.2.2 hin144 hat144 (g := (mkF m 82 #[oR r0, oR r1, oI 3, oR b101, oI 0, oI 2, oI w1fft_, oI 1] [(.int 1), (.ref r0), (.ref b101)])) rfl rfl (hb hby d1_82) _ ?_
          show own_S p e below T128 m 83 _ [(.int ma1), (.ref b101)] _
          refine X128.iaload hx (j := ma1) (v := (.int (own_at cc20 cc21 cc22 ma1))) (by rw [e128]; exact Ar131.1) (State.isArrayOf_alike hZ.alike Ar131.2.1) Ar131.2.2 hin145 hat145 (g := (mkF m 83 #[oR r0, oR r1, oI 3, oR b101, oI 0, oI 2, oI w1fft_, oI 1] [(.int ma1), (.ref b101)])) rfl rfl (hb hby d1_83) _ ?_
          show own_S p e below T128 m 84 _ [(.int (own_at cc20 cc21 cc22 ma1))] _
          refine XS.iconst X128.here hx rfl (hb hby d1_84) ?_
          exact kt
        have pre151 : ∀ t, Steps p.tables e below (T128.setTop (mkF m 109 #[oR r0, oR r1, oI 3, oR b101, oI 0, oI 2, oI w2fft_, oI 1] [])) t → Steps p.tables e below (s₁.setTop (mkF m 0 #[oR r0, oR r1, oI 3, oU, oU, oU, oU, oU] [])) t := by
          intro t kt
          refine pre146 _ ?_
          show own_S p e below T128 m 85 #[oR r0, oR r1, oI 3, oR b101, oI 0, oI 2, oI w1fft_, oI 1] [(.int 1), (.int (own_at cc20 cc21 cc22 ma1))] _
          by_cases hj : (1 : Int32) < (own_at cc20 cc21 cc22 ma1)
          · skip
            refine XS.icmpNo X128.here hx rfl (hb hby d1_85) rfl (tlt (hj : (1 : Int32) < (own_at cc20 cc21 cc22 ma1))).2.2.2 ?_
            show own_S p e below T128 m 88 #[oR r0, oR r1, oI 3, oR b101, oI 0, oI 2, oI w1fft_, oI 1] [] _
            refine XS.iload X128.here hx rfl (hb hby d1_88) rfl ?_
            show own_S p e below T128 m 90 _ [(.int w1fft_)] _
            by_cases hn : w1fft_ < (0 : Int32)
            · skip
              refine XS.ifYes X128.here hx rfl (pc0 := 90) (pc' := 105) rfl (hb hby d1_90) rfl ((if0 _ _).trans (tlt (hn : w1fft_ < (0 : Int32))).1) (by decide) (by decide) ?_
              show own_S p e below T128 m 105 #[oR r0, oR r1, oI 3, oR b101, oI 0, oI 2, oI w1fft_, oI 1] [] _
              refine XS.iload X128.here hx rfl (hb hby d1_105) rfl ?_
              show own_S p e below T128 m 107 _ [(.int 1)] _
              refine XS.istore X128.here hx rfl (hb hby d1_107) rfl (l' := #[oR r0, oR r1, oI 3, oR b101, oI 0, oI 2, oI 1, oI 1]) rfl ?_
              rw [(hw2fft_.trans (own_w2TT hj hn) : w2fft_ = (1 : Int32))] at kt
              exact kt
            · skip
              have Fc147 := ((((V_r1.ext E101).other W110 (Nat.ne_of_lt (Nat.lt_of_lt_of_le V_r1.lt (Nat.le_of_eq g101.symm)))).other W119 (Nat.ne_of_lt (Nat.lt_of_lt_of_le V_r1.lt (Nat.le_of_eq g101.symm)))).other W128 (Nat.ne_of_lt (Nat.lt_of_lt_of_le V_r1.lt (Nat.le_of_eq g101.symm))))
              obtain ⟨cl148, Ar148, qk148, Sz148, Nz148, Hh148, Gg148⟩ := id Fc147
              have hin149 : ¬ ((1 : Int32) < 0 ∨ cl148.slots.size ≤ ((1 : Int32)).toNatClampNeg) := inb_of Sz148 ⟨by decide, by decide⟩
              have hat149 : cl148.slots[((1 : Int32)).toNatClampNeg]? = some (.double f1) := Has.at Hh148 hin149 rfl
              have hin150 : ¬ (w1fft_ < 0 ∨ cl148.slots.size ≤ (w1fft_).toNatClampNeg) := inb_of Sz148 (own_b00 (own_w1z hw1fft_ hn))
              have hat150 : cl148.slots[(w1fft_).toNatClampNeg]? = some (.double f0) := Has.at Hh148 hin150 (own_gd0 (own_w1z hw1fft_ hn))
              refine XS.ifNo X128.here hx rfl (hb hby d1_90) rfl ((if0 _ _).trans (flt (hn : ¬ (w1fft_ < (0 : Int32)))).1) ?_
              show own_S p e below T128 m 93 #[oR r0, oR r1, oI 3, oR b101, oI 0, oI 2, oI w1fft_, oI 1] [] _
              refine XS.aloadN X128.here hx rfl (hb hby d1_93) rfl rfl ?_
              show own_S p e below T128 m 94 _ [(.ref r1)] _
              refine XS.iload X128.here hx rfl (hb hby d1_94) rfl ?_
              show own_S p e below T128 m 96 _ [(.int 1), (.ref r1)] _
              refine X128.daload hx (j := (1 : Int32)) (v := (.double f1)) (by rw [e128]; exact Ar148.1) (State.isArrayOf_alike hZ.alike Ar148.2.1) Ar148.2.2 hin149 hat149 (g := (mkF m 96 #[oR r0, oR r1, oI 3, oR b101, oI 0, oI 2, oI w1fft_, oI 1] [(.int 1), (.ref r1)])) rfl rfl (hb hby d1_96) _ ?_
              show own_S p e below T128 m 97 _ [(.double f1)] _
              refine XS.aloadN X128.here hx rfl (hb hby d1_97) rfl rfl ?_
              show own_S p e below T128 m 98 _ [(.ref r1), (.double f1)] _
              refine XS.iload X128.here hx rfl (hb hby d1_98) rfl ?_
              show own_S p e below T128 m 100 _ [(.int w1fft_), (.ref r1), (.double f1)] _
              refine X128.daload hx (j := w1fft_) (v := (.double f0)) (by rw [e128]; exact Ar148.1) (State.isArrayOf_alike hZ.alike Ar148.2.1) Ar148.2.2 hin150 hat150 (g := (mkF m 100 #[oR r0, oR r1, oI 3, oR b101, oI 0, oI 2, oI w1fft_, oI 1] [(.int w1fft_), (.ref r1), (.double f1)])) rfl rfl (hb hby d1_100) _ ?_
              show own_S p e below T128 m 101 _ [(.double f0), (.double f1)] _
              refine XS.dcmpS X128.here hx rfl (v := (cmpValue (FP.dcmp f1 f0) .g)) (hb hby d1_101) rfl rfl ?_
              show own_S p e below T128 m 102 #[oR r0, oR r1, oI 3, oR b101, oI 0, oI 2, oI w1fft_, oI 1] [(.int (cmpValue (FP.dcmp f1 f0) .g))] _
              by_cases hd : (cmpValue (FP.dcmp f1 f0) .g) < (0 : Int32)
              · skip
                refine XS.ifNo X128.here hx rfl (hb hby d1_102) rfl ((if0 _ _).trans (tlt (hd : (cmpValue (FP.dcmp f1 f0) .g) < (0 : Int32))).2.1) ?_
                show own_S p e below T128 m 105 #[oR r0, oR r1, oI 3, oR b101, oI 0, oI 2, oI w1fft_, oI 1] [] _
                refine XS.iload X128.here hx rfl (hb hby d1_105) rfl ?_
                show own_S p e below T128 m 107 _ [(.int 1)] _
                refine XS.istore X128.here hx rfl (hb hby d1_107) rfl (l' := #[oR r0, oR r1, oI 3, oR b101, oI 0, oI 2, oI 1, oI 1]) rfl ?_
                rw [(hw2fft_.trans (own_w2TFT hj hn (cx.mp hd)) : w2fft_ = (1 : Int32))] at kt
                exact kt
              · skip
                refine XS.ifYes X128.here hx rfl (pc0 := 102) (pc' := 109) rfl (hb hby d1_102) rfl ((if0 _ _).trans (flt (hd : ¬ ((cmpValue (FP.dcmp f1 f0) .g) < (0 : Int32)))).2.1) (by decide) (by decide) ?_
                rw [(hw2fft_.trans (own_w2TFF hj hn (fun q => hd (cx.mpr q))) : w2fft_ = w1fft_)] at kt
                exact kt
          · skip
            refine XS.icmpYes X128.here hx rfl (pc0 := 85) (pc' := 109) rfl (hb hby d1_85) rfl (flt (hj : ¬ ((1 : Int32) < (own_at cc20 cc21 cc22 ma1)))).2.2.2 (by decide) (by decide) ?_
            rw [(hw2fft_.trans (own_w2F hj) : w2fft_ = w1fft_)] at kt
            exact kt
        have hin152 : ¬ ((2 : Int32) < 0 ∨ cl139.slots.size ≤ ((2 : Int32)).toNatClampNeg) := inb_of Sz139 ⟨by decide, by decide⟩
        have hat152 : cl139.slots[((2 : Int32)).toNatClampNeg]? = some (.int ma2) := Has.at Hh139 hin152 rfl
        have hin153 : ¬ (ma2 < 0 ∨ cl131.slots.size ≤ (ma2).toNatClampNeg) := inb_of Sz131 (own_b3 ra2)
        have hat153 : cl131.slots[(ma2).toNatClampNeg]? = some (.int (own_at cc20 cc21 cc22 ma2)) := Has.at Hh131 hin153 (own_g3 ra2)
        have pre154 : ∀ t, Steps p.tables e below (T128.setTop (mkF m 85 #[oR r0, oR r1, oI 3, oR b101, oI 0, oI 2, oI w2fft_, oI 2] [(.int 1), (.int (own_at cc20 cc21 cc22 ma2))])) t → Steps p.tables e below (s₁.setTop (mkF m 0 #[oR r0, oR r1, oI 3, oU, oU, oU, oU, oU] [])) t := by
          intro t kt
          refine pre151 _ ?_
          show own_S p e below T128 m 109 #[oR r0, oR r1, oI 3, oR b101, oI 0, oI 2, oI w2fft_, oI 1] [] _
          refine XS.iinc X128.here hx rfl (hb hby d1_109) rfl (l' := #[oR r0, oR r1, oI 3, oR b101, oI 0, oI 2, oI w2fft_, oI 2]) rfl ?_
          show own_S p e below T128 m 112 #[oR r0, oR r1, oI 3, oR b101, oI 0, oI 2, oI w2fft_, oI 2] [] _
          refine XS.goto X128.here hx rfl (pc0 := 112) (pc' := 71) rfl (hb hby d1_112) (by decide) (by decide) ?_
          show own_S p e below T128 m 71 _ [] _
          refine XS.iload X128.here hx rfl (hb hby d1_71) rfl ?_
          show own_S p e below T128 m 73 _ [(.int 2)] _
          refine XS.aloadN X128.here hx rfl (hb hby d1_73) rfl rfl ?_
          show own_S p e below T128 m 74 _ [(.ref r0), (.int 2)] _
          refine X128.arraylength hx (by rw [e128]; exact Ar139.1) (State.isArrayOf_alike hZ.alike Ar139.2.1) (g := (mkF m 74 #[oR r0, oR r1, oI 3, oR b101, oI 0, oI 2, oI w2fft_, oI 2] [(.ref r0), (.int 2)])) rfl rfl (hb hby d1_74) _ ?_
          rw [len_of Sz139 Nz139]
          show own_S p e below T128 m 75 _ [(.int 3), (.int 2)] _
          refine XS.icmpNo X128.here hx rfl (hb hby d1_75) rfl (tlt (by decide : (2 : Int32) < (3 : Int32))).2.1 ?_
          show own_S p e below T128 m 78 _ [] _
          refine XS.aloadN X128.here hx rfl (hb hby d1_78) rfl rfl ?_
          show own_S p e below T128 m 79 _ [(.ref b101)] _
          refine XS.aloadN X128.here hx rfl (hb hby d1_79) rfl rfl ?_
          show own_S p e below T128 m 80 #[oR r0, oR r1, oI 3, oR b101, oI 0, oI 2, oI w2fft_, oI 2] [(.ref r0), (.ref b101)] _
          refine XS.iload X128.here hx rfl (hb hby d1_80) rfl ?_
          show own_S p e below T128 m 82 _ [(.int 2), (.ref r0), (.ref b101)] _
          refine X128.iaload hx (j := (2 : Int32)) (v := (.int ma2)) (by rw [e128]; exact Ar139.1) (State.isArrayOf_alike hZ.alike Ar139.2.1) Ar139.2.2 hin152 hat152 (g := (mkF m 82 #[oR r0, oR r1, oI 3, oR b101, oI 0, oI 2, oI w2fft_, oI 2] [(.int 2), (.ref r0), (.ref b101)])) rfl rfl (hb hby d1_82) _ ?_
          show own_S p e below T128 m 83 _ [(.int ma2), (.ref b101)] _
          refine X128.iaload hx (j := ma2) (v := (.int (own_at cc20 cc21 cc22 ma2))) (by rw [e128]; exact Ar131.1) (State.isArrayOf_alike hZ.alike Ar131.2.1) Ar131.2.2 hin153 hat153 (g := (mkF m 83 #[oR r0, oR r1, oI 3, oR b101, oI 0, oI 2, oI w2fft_, oI 2] [(.int ma2), (.ref b101)])) rfl rfl (hb hby d1_83) _ ?_
          show own_S p e below T128 m 84 _ [(.int (own_at cc20 cc21 cc22 ma2))] _
          refine XS.iconst X128.here hx rfl (hb hby d1_84) ?_
          exact kt
        have pre159 : ∀ t, Steps p.tables e below (T128.setTop (mkF m 109 #[oR r0, oR r1, oI 3, oR b101, oI 0, oI 2, oI w3fft_, oI 2] [])) t → Steps p.tables e below (s₁.setTop (mkF m 0 #[oR r0, oR r1, oI 3, oU, oU, oU, oU, oU] [])) t := by
          intro t kt
          refine pre154 _ ?_
          show own_S p e below T128 m 85 #[oR r0, oR r1, oI 3, oR b101, oI 0, oI 2, oI w2fft_, oI 2] [(.int 1), (.int (own_at cc20 cc21 cc22 ma2))] _
          by_cases hj : (1 : Int32) < (own_at cc20 cc21 cc22 ma2)
          · skip
            refine XS.icmpNo X128.here hx rfl (hb hby d1_85) rfl (tlt (hj : (1 : Int32) < (own_at cc20 cc21 cc22 ma2))).2.2.2 ?_
            show own_S p e below T128 m 88 #[oR r0, oR r1, oI 3, oR b101, oI 0, oI 2, oI w2fft_, oI 2] [] _
            refine XS.iload X128.here hx rfl (hb hby d1_88) rfl ?_
            show own_S p e below T128 m 90 _ [(.int w2fft_)] _
            by_cases hn : w2fft_ < (0 : Int32)
            · skip
              refine XS.ifYes X128.here hx rfl (pc0 := 90) (pc' := 105) rfl (hb hby d1_90) rfl ((if0 _ _).trans (tlt (hn : w2fft_ < (0 : Int32))).1) (by decide) (by decide) ?_
              show own_S p e below T128 m 105 #[oR r0, oR r1, oI 3, oR b101, oI 0, oI 2, oI w2fft_, oI 2] [] _
              refine XS.iload X128.here hx rfl (hb hby d1_105) rfl ?_
              show own_S p e below T128 m 107 _ [(.int 2)] _
              refine XS.istore X128.here hx rfl (hb hby d1_107) rfl (l' := #[oR r0, oR r1, oI 3, oR b101, oI 0, oI 2, oI 2, oI 2]) rfl ?_
              rw [(hw3fft_.trans (own_w3TT hj hn) : w3fft_ = (2 : Int32))] at kt
              exact kt
            · skip
              have Fc155 := ((((V_r1.ext E101).other W110 (Nat.ne_of_lt (Nat.lt_of_lt_of_le V_r1.lt (Nat.le_of_eq g101.symm)))).other W119 (Nat.ne_of_lt (Nat.lt_of_lt_of_le V_r1.lt (Nat.le_of_eq g101.symm)))).other W128 (Nat.ne_of_lt (Nat.lt_of_lt_of_le V_r1.lt (Nat.le_of_eq g101.symm))))
              obtain ⟨cl156, Ar156, qk156, Sz156, Nz156, Hh156, Gg156⟩ := id Fc155
              have hin157 : ¬ ((2 : Int32) < 0 ∨ cl156.slots.size ≤ ((2 : Int32)).toNatClampNeg) := inb_of Sz156 ⟨by decide, by decide⟩
              have hat157 : cl156.slots[((2 : Int32)).toNatClampNeg]? = some (.double f2) := Has.at Hh156 hin157 rfl
              have hin158 : ¬ (w2fft_ < 0 ∨ cl156.slots.size ≤ (w2fft_).toNatClampNeg) := inb_of Sz156 (own_b01 (own_w2z hw1fft_ hw2fft_ hn))
              have hat158 : cl156.slots[(w2fft_).toNatClampNeg]? = some (.double (own_atD f0 f1 w2fft_)) := Has.at Hh156 hin158 (own_gd (own_w2z hw1fft_ hw2fft_ hn))
              refine XS.ifNo X128.here hx rfl (hb hby d1_90) rfl ((if0 _ _).trans (flt (hn : ¬ (w2fft_ < (0 : Int32)))).1) ?_
              show own_S p e below T128 m 93 #[oR r0, oR r1, oI 3, oR b101, oI 0, oI 2, oI w2fft_, oI 2] [] _
              refine XS.aloadN X128.here hx rfl (hb hby d1_93) rfl rfl ?_
              show own_S p e below T128 m 94 _ [(.ref r1)] _
              refine XS.iload X128.here hx rfl (hb hby d1_94) rfl ?_
              show own_S p e below T128 m 96 _ [(.int 2), (.ref r1)] _
              refine X128.daload hx (j := (2 : Int32)) (v := (.double f2)) (by rw [e128]; exact Ar156.1) (State.isArrayOf_alike hZ.alike Ar156.2.1) Ar156.2.2 hin157 hat157 (g := (mkF m 96 #[oR r0, oR r1, oI 3, oR b101, oI 0, oI 2, oI w2fft_, oI 2] [(.int 2), (.ref r1)])) rfl rfl (hb hby d1_96) _ ?_
              show own_S p e below T128 m 97 _ [(.double f2)] _
              refine XS.aloadN X128.here hx rfl (hb hby d1_97) rfl rfl ?_
              show own_S p e below T128 m 98 _ [(.ref r1), (.double f2)] _
              refine XS.iload X128.here hx rfl (hb hby d1_98) rfl ?_
              show own_S p e below T128 m 100 _ [(.int w2fft_), (.ref r1), (.double f2)] _
              refine X128.daload hx (j := w2fft_) (v := (.double (own_atD f0 f1 w2fft_))) (by rw [e128]; exact Ar156.1) (State.isArrayOf_alike hZ.alike Ar156.2.1) Ar156.2.2 hin158 hat158 (g := (mkF m 100 #[oR r0, oR r1, oI 3, oR b101, oI 0, oI 2, oI w2fft_, oI 2] [(.int w2fft_), (.ref r1), (.double f2)])) rfl rfl (hb hby d1_100) _ ?_
              show own_S p e below T128 m 101 _ [(.double (own_atD f0 f1 w2fft_)), (.double f2)] _
              refine XS.dcmpS X128.here hx rfl (v := (cmpValue (FP.dcmp f2 (own_atD f0 f1 w2fft_)) .g)) (hb hby d1_101) rfl rfl ?_
              show own_S p e below T128 m 102 #[oR r0, oR r1, oI 3, oR b101, oI 0, oI 2, oI w2fft_, oI 2] [(.int (cmpValue (FP.dcmp f2 (own_atD f0 f1 w2fft_)) .g))] _
              by_cases hd : (cmpValue (FP.dcmp f2 (own_atD f0 f1 w2fft_)) .g) < (0 : Int32)
              · skip
                refine XS.ifNo X128.here hx rfl (hb hby d1_102) rfl ((if0 _ _).trans (tlt (hd : (cmpValue (FP.dcmp f2 (own_atD f0 f1 w2fft_)) .g) < (0 : Int32))).2.1) ?_
                show own_S p e below T128 m 105 #[oR r0, oR r1, oI 3, oR b101, oI 0, oI 2, oI w2fft_, oI 2] [] _
                refine XS.iload X128.here hx rfl (hb hby d1_105) rfl ?_
                show own_S p e below T128 m 107 _ [(.int 2)] _
                refine XS.istore X128.here hx rfl (hb hby d1_107) rfl (l' := #[oR r0, oR r1, oI 3, oR b101, oI 0, oI 2, oI 2, oI 2]) rfl ?_
                rw [(hw3fft_.trans (own_w3TFT hj hn ((own_cyz (own_w2z hw1fft_ hw2fft_ hn) cy cz).mp hd)) : w3fft_ = (2 : Int32))] at kt
                exact kt
              · skip
                refine XS.ifYes X128.here hx rfl (pc0 := 102) (pc' := 109) rfl (hb hby d1_102) rfl ((if0 _ _).trans (flt (hd : ¬ ((cmpValue (FP.dcmp f2 (own_atD f0 f1 w2fft_)) .g) < (0 : Int32)))).2.1) (by decide) (by decide) ?_
                rw [(hw3fft_.trans (own_w3TFF hj hn (fun q => hd ((own_cyz (own_w2z hw1fft_ hw2fft_ hn) cy cz).mpr q))) : w3fft_ = w2fft_)] at kt
                exact kt
          · skip
            refine XS.icmpYes X128.here hx rfl (pc0 := 85) (pc' := 109) rfl (hb hby d1_85) rfl (flt (hj : ¬ ((1 : Int32) < (own_at cc20 cc21 cc22 ma2)))).2.2.2 (by decide) (by decide) ?_
            rw [(hw3fft_.trans (own_w3F hj) : w3fft_ = w2fft_)] at kt
            exact kt
        have hin160 : ¬ (w3fft_ < 0 ∨ cl139.slots.size ≤ (w3fft_).toNatClampNeg) := inb_of Sz139 (own_b3 hWw3fft_)
        have hat160 : cl139.slots[(w3fft_).toNatClampNeg]? = some (.int mwfft_) := Has.at Hh139 hin160 (by rw [hmwfft_]; exact own_g3 hWw3fft_)
        have hin161 : ¬ (mwfft_ < 0 ∨ cl131.slots.size ≤ (mwfft_).toNatClampNeg) := inb_of Sz131 (own_b3 hRmwfft_)
        have hat161 : cl131.slots[(mwfft_).toNatClampNeg]? = some (.int (own_at cc20 cc21 cc22 mwfft_)) := Has.at Hh131 hin161 (own_g3 hRmwfft_)
        have hin162 : ¬ (mwfft_ < 0 ∨ cl131.slots.size ≤ (mwfft_).toNatClampNeg) := inb_of Sz131 (own_b3 hRmwfft_)
        obtain ⟨T163, h163, X163, e163, W163, st163⟩ := stI X128 hx hZ e128 Ar131 (j := mwfft_) hin162 (g := (mkF m 124 #[oR r0, oR r1, oI 3, oR b101, oI 0, oI 2, oI w3fft_, oI 3] [(.int ((own_at cc20 cc21 cc22 mwfft_) - (1 : Int32))), (.int mwfft_), (.ref b101)])) rfl rfl (hb hby d1_124)
        have Va163 := Arv.set Ar131 qk131 Sz131 Nz131 Hh131 Gg131 rfl W163 (mwfft_).toNatClampNeg rfl (own_l3 hRmwfft_)
        have Vs163 : Arv Z h163 b101 k101 .int (3 : Int32) [(.int d0fft_), (.int d1fft_), (.int d2fft_)] (.int 0) := by rw [← (by rw [hd0fft_, hd1fft_, hd2fft_]; exact own_s3 hRmwfft_ : ([(.int cc20), (.int cc21), (.int cc22)] : List Value).set (mwfft_).toNatClampNeg (.int ((own_at cc20 cc21 cc22 mwfft_) - (1 : Int32))) = [(.int d0fft_), (.int d1fft_), (.int d2fft_)])]; exact Va163
        have N163 := Fr.snoc X163 N128 g_b101
        have ZZ164 : n0 ≤ h163.size := Nat.le_trans ZZ129 (Nat.le_of_eq W163.size.symm)
        have KK165 : Keep h0 h163 [r0] := KK130.wr W163 (Or.inr sz_b101)
        obtain ⟨cl166, Ar166, qk166, Sz166, Nz166, Hh166, Gg166⟩ := id Vs163
        have hin167 : ¬ ((2 : Int32) < 0 ∨ cl166.slots.size ≤ ((2 : Int32)).toNatClampNeg) := inb_of Sz166 ⟨by decide, by decide⟩
        have hat167 : cl166.slots[((2 : Int32)).toNatClampNeg]? = some (.int d2fft_) := Has.at Hh166 hin167 rfl
        have hin168 : ¬ ((2 : Int32) < 0 ∨ cl166.slots.size ≤ ((2 : Int32)).toNatClampNeg) := inb_of Sz166 ⟨by decide, by decide⟩
        obtain ⟨T169, h169, X169, e169, W169, st169⟩ := stI X163 hx hZ e163 Ar166 (j := (2 : Int32)) hin168 (g := (mkF m 132 #[oR r0, oR r1, oI 3, oR b101, oI 0, oI 2, oI w3fft_, oI 3] [(.int (d2fft_ + (1 : Int32))), (.int 2), (.ref b101)])) rfl rfl (hb hby d1_132)
        have Va169 := Arv.set Ar166 qk166 Sz166 Nz166 Hh166 Gg166 rfl W169 2 rfl (Nat.le_of_ble_eq_true rfl)
        have N169 := Fr.snoc X169 N163 g_b101
        have ZZ170 : n0 ≤ h169.size := Nat.le_trans ZZ164 (Nat.le_of_eq W169.size.symm)
        have KK171 : Keep h0 h169 [r0] := KK165.wr W169 (Or.inr sz_b101)
        have Fc172 := ((Fc138.other W163 (Nat.ne_of_lt (Nat.lt_of_lt_of_le V_r0.lt (Nat.le_of_eq g101.symm)))).other W169 (Nat.ne_of_lt (Nat.lt_of_lt_of_le V_r0.lt (Nat.le_of_eq g101.symm))))
        obtain ⟨cl173, Ar173, qk173, Sz173, Nz173, Hh173, Gg173⟩ := id Fc172
        have hin174 : ¬ (w3fft_ < 0 ∨ cl173.slots.size ≤ (w3fft_).toNatClampNeg) := inb_of Sz173 (own_b3 hWw3fft_)
        obtain ⟨T175, h175, X175, e175, W175, st175⟩ := stI X169 hx hZ e169 Ar173 (j := w3fft_) hin174 (g := (mkF m 138 #[oR r0, oR r1, oI 3, oR b101, oI 0, oI 2, oI w3fft_, oI 3] [(.int 2), (.int w3fft_), (.ref r0)])) rfl rfl (hb hby d1_138)
        have Va175 := Arv.set Ar173 qk173 Sz173 Nz173 Hh173 Gg173 rfl W175 (w3fft_).toNatClampNeg rfl (own_l3 hWw3fft_)
        have Vs175 : Arv Z h175 r0 ka .int (3 : Int32) [(.int n0fft_), (.int n1fft_), (.int n2fft_)] (.int 0) := by rw [← (by rw [hn0fft_, hn1fft_, hn2fft_]; exact own_s3 hWw3fft_ : ([(.int ma0), (.int ma1), (.int ma2)] : List Value).set (w3fft_).toNatClampNeg (.int 2) = [(.int n0fft_), (.int n1fft_), (.int n2fft_)])]; exact Va175
        have N175 := Fr.snoc X175 N169 g_r0
        have ZZ176 : n0 ≤ h175.size := Nat.le_trans ZZ170 (Nat.le_of_eq W175.size.symm)
        have KK177 : Keep h0 h175 [r0] := KK171.wr W175 (Or.inl (List.mem_of_getElem? (i := 0) rfl))
        obtain ⟨fs, hr, hrun, hended, hW, hsame⟩ := X175.leave (v := some (.int 1)) (fun h => by rw [Bd.returns] at h; cases h)
        refine ⟨_, _, pre0 _ (pre159 _ ?_), hrun, hended, _, _, rfl, ?_, ⟨_, rfl⟩, hW, hsame.mono (by decide) (by decide)⟩
        · show own_S p e below T128 m 109 #[oR r0, oR r1, oI 3, oR b101, oI 0, oI 2, oI w3fft_, oI 2] [] _
          refine XS.iinc X128.here hx rfl (hb hby d1_109) rfl (l' := #[oR r0, oR r1, oI 3, oR b101, oI 0, oI 2, oI w3fft_, oI 3]) rfl ?_
          show own_S p e below T128 m 112 #[oR r0, oR r1, oI 3, oR b101, oI 0, oI 2, oI w3fft_, oI 3] [] _
          refine XS.goto X128.here hx rfl (pc0 := 112) (pc' := 71) rfl (hb hby d1_112) (by decide) (by decide) ?_
          show own_S p e below T128 m 71 _ [] _
          refine XS.iload X128.here hx rfl (hb hby d1_71) rfl ?_
          show own_S p e below T128 m 73 _ [(.int 3)] _
          refine XS.aloadN X128.here hx rfl (hb hby d1_73) rfl rfl ?_
          show own_S p e below T128 m 74 _ [(.ref r0), (.int 3)] _
          refine X128.arraylength hx (by rw [e128]; exact Ar139.1) (State.isArrayOf_alike hZ.alike Ar139.2.1) (g := (mkF m 74 #[oR r0, oR r1, oI 3, oR b101, oI 0, oI 2, oI w3fft_, oI 3] [(.ref r0), (.int 3)])) rfl rfl (hb hby d1_74) _ ?_
          rw [len_of Sz139 Nz139]
          show own_S p e below T128 m 75 _ [(.int 3), (.int 3)] _
          refine XS.icmpYes X128.here hx rfl (pc0 := 75) (pc' := 115) rfl (hb hby d1_75) rfl (flt (by decide : ¬ ((3 : Int32) < (3 : Int32)))).2.1 (by decide) (by decide) ?_
          show own_S p e below T128 m 115 _ [] _
          refine XS.aloadN X128.here hx rfl (hb hby d1_115) rfl rfl ?_
          show own_S p e below T128 m 116 _ [(.ref b101)] _
          refine XS.aloadN X128.here hx rfl (hb hby d1_116) rfl rfl ?_
          show own_S p e below T128 m 117 #[oR r0, oR r1, oI 3, oR b101, oI 0, oI 2, oI w3fft_, oI 3] [(.ref r0), (.ref b101)] _
          refine XS.iload X128.here hx rfl (hb hby d1_117) rfl ?_
          show own_S p e below T128 m 119 _ [(.int w3fft_), (.ref r0), (.ref b101)] _
          refine X128.iaload hx (j := w3fft_) (v := (.int mwfft_)) (by rw [e128]; exact Ar139.1) (State.isArrayOf_alike hZ.alike Ar139.2.1) Ar139.2.2 hin160 hat160 (g := (mkF m 119 #[oR r0, oR r1, oI 3, oR b101, oI 0, oI 2, oI w3fft_, oI 3] [(.int w3fft_), (.ref r0), (.ref b101)])) rfl rfl (hb hby d1_119) _ ?_
          show own_S p e below T128 m 120 _ [(.int mwfft_), (.ref b101)] _
          jvm_step X128.here [X128.here.top, hx, (hb hby d1_120), Value.category]
          show own_S p e below T128 m 121 #[oR r0, oR r1, oI 3, oR b101, oI 0, oI 2, oI w3fft_, oI 3] [(.int mwfft_), (.ref b101), (.int mwfft_), (.ref b101)] _
          refine X128.iaload hx (j := mwfft_) (v := (.int (own_at cc20 cc21 cc22 mwfft_))) (by rw [e128]; exact Ar131.1) (State.isArrayOf_alike hZ.alike Ar131.2.1) Ar131.2.2 hin161 hat161 (g := (mkF m 121 #[oR r0, oR r1, oI 3, oR b101, oI 0, oI 2, oI w3fft_, oI 3] [(.int mwfft_), (.ref b101), (.int mwfft_), (.ref b101)])) rfl rfl (hb hby d1_121) _ ?_
          show own_S p e below T128 m 122 _ [(.int (own_at cc20 cc21 cc22 mwfft_)), (.int mwfft_), (.ref b101)] _
          refine XS.iconst X128.here hx rfl (hb hby d1_122) ?_
          show own_S p e below T128 m 123 _ [(.int 1), (.int (own_at cc20 cc21 cc22 mwfft_)), (.int mwfft_), (.ref b101)] _
          refine XS.isub X128.here hx rfl (hb hby d1_123) rfl ?_
          show own_S p e below T128 m 124 _ [(.int ((own_at cc20 cc21 cc22 mwfft_) - (1 : Int32))), (.int mwfft_), (.ref b101)] _
          refine st163 _ ?_
          show own_S p e below T163 m 125 _ [] _
          refine XS.aloadN X163.here hx rfl (hb hby d1_125) rfl rfl ?_
          show own_S p e below T163 m 126 _ [(.ref b101)] _
          refine XS.iload X163.here hx rfl (hb hby d1_126) rfl ?_
          show own_S p e below T163 m 128 _ [(.int 2), (.ref b101)] _
          jvm_step X163.here [X163.here.top, hx, (hb hby d1_128), Value.category]
          show own_S p e below T163 m 129 #[oR r0, oR r1, oI 3, oR b101, oI 0, oI 2, oI w3fft_, oI 3] [(.int 2), (.ref b101), (.int 2), (.ref b101)] _
          refine X163.iaload hx (j := (2 : Int32)) (v := (.int d2fft_)) (by rw [e163]; exact Ar166.1) (State.isArrayOf_alike hZ.alike Ar166.2.1) Ar166.2.2 hin167 hat167 (g := (mkF m 129 #[oR r0, oR r1, oI 3, oR b101, oI 0, oI 2, oI w3fft_, oI 3] [(.int 2), (.ref b101), (.int 2), (.ref b101)])) rfl rfl (hb hby d1_129) _ ?_
          show own_S p e below T163 m 130 _ [(.int d2fft_), (.int 2), (.ref b101)] _
          refine XS.iconst X163.here hx rfl (hb hby d1_130) ?_
          show own_S p e below T163 m 131 _ [(.int 1), (.int d2fft_), (.int 2), (.ref b101)] _
          refine XS.iadd X163.here hx rfl (hb hby d1_131) rfl ?_
          show own_S p e below T163 m 132 _ [(.int (d2fft_ + (1 : Int32))), (.int 2), (.ref b101)] _
          refine st169 _ ?_
          show own_S p e below T169 m 133 _ [] _
          refine XS.aloadN X169.here hx rfl (hb hby d1_133) rfl rfl ?_
          show own_S p e below T169 m 134 _ [(.ref r0)] _
          refine XS.iload X169.here hx rfl (hb hby d1_134) rfl ?_
          show own_S p e below T169 m 136 _ [(.int w3fft_), (.ref r0)] _
          refine XS.iload X169.here hx rfl (hb hby d1_136) rfl ?_
          show own_S p e below T169 m 138 #[oR r0, oR r1, oI 3, oR b101, oI 0, oI 2, oI w3fft_, oI 3] [(.int 2), (.int w3fft_), (.ref r0)] _
          refine st175 _ ?_
          show own_S p e below T175 m 139 _ [] _
          refine XS.iconst X175.here hx rfl (hb hby d1_139) ?_
          show own_S p e below T175 m 140 _ [(.int 1)] _
          refine XS.istore X175.here hx rfl (hb hby d1_140) rfl (l' := #[oR r0, oR r1, oI 3, oR b101, oI 1, oI 2, oI w3fft_, oI 3]) rfl ?_
          show own_S p e below T175 m 142 #[oR r0, oR r1, oI 3, oR b101, oI 1, oI 2, oI w3fft_, oI 3] [] _
          refine XS.iinc X175.here hx rfl (hb hby d1_142) rfl (l' := #[oR r0, oR r1, oI 3, oR b101, oI 1, oI 3, oI w3fft_, oI 3]) rfl ?_
          show own_S p e below T175 m 145 #[oR r0, oR r1, oI 3, oR b101, oI 1, oI 3, oI w3fft_, oI 3] [] _
          refine XS.goto X175.here hx rfl (pc0 := 145) (pc' := 49) rfl (hb hby d1_145) (by decide) (by decide) ?_
          show own_S p e below T175 m 49 _ [] _
          refine XS.iload X175.here hx rfl (hb hby d1_49) rfl ?_
          show own_S p e below T175 m 51 _ [(.int 3)] _
          refine XS.iloadN X175.here hx rfl (hb hby d1_51) rfl ?_
          show own_S p e below T175 m 52 _ [(.int 3), (.int 3)] _
          refine XS.icmpYes X175.here hx rfl (pc0 := 52) (pc' := 148) rfl (hb hby d1_52) rfl (flt (by decide : ¬ ((3 : Int32) < (3 : Int32)))).2.1 (by decide) (by decide) ?_
          show own_S p e below T175 m 148 _ [] _
          refine XS.iload X175.here hx rfl (hb hby d1_148) rfl ?_
          show own_S p e below T175 m 150 _ [(.int 1)] _
          exact retN X175 hx (t := .boolean) Bd.returns (by simp) (hb hby d1_150) hr
        · show Qf3 Z r0 r1 ka kb ma0 ma1 ma2 f0 f1 f2 x y z h0 n0 _ T175.heap _
          rw [e175]
          exact ⟨n0fft_, n1fft_, n2fft_, (1 : Int32), rfl, N175, KK177, Vs175, (by rw [H3]; exact ⟨rfl, rfl, rfl, rfl⟩)⟩
    · skip
      obtain ⟨w1ft_, hw1ft_⟩ : ∃ zz, zz = own_w1 (own_at cc20 cc21 cc22 ma0) := ⟨_, rfl⟩
      obtain ⟨w2ft_, hw2ft_⟩ : ∃ zz, zz = own_w2 x (own_at cc20 cc21 cc22 ma1) w1ft_ := ⟨_, rfl⟩
      obtain ⟨w3ft_, hw3ft_⟩ : ∃ zz, zz = own_w3 y z (own_at cc20 cc21 cc22 ma2) w2ft_ := ⟨_, rfl⟩
      obtain ⟨mwft_, hmwft_⟩ : ∃ zz, zz = own_at ma0 ma1 ma2 w3ft_ := ⟨_, rfl⟩
      obtain ⟨d0ft_, hd0ft_⟩ : ∃ zz, zz = own_p 0 mwft_ ((own_at cc20 cc21 cc22 mwft_) - (1 : Int32)) cc20 := ⟨_, rfl⟩
      obtain ⟨d1ft_, hd1ft_⟩ : ∃ zz, zz = own_p 1 mwft_ ((own_at cc20 cc21 cc22 mwft_) - (1 : Int32)) cc21 := ⟨_, rfl⟩
      obtain ⟨d2ft_, hd2ft_⟩ : ∃ zz, zz = own_p 2 mwft_ ((own_at cc20 cc21 cc22 mwft_) - (1 : Int32)) cc22 := ⟨_, rfl⟩
      obtain ⟨n0ft_, hn0ft_⟩ : ∃ zz, zz = own_p 0 w3ft_ (1 : Int32) ma0 := ⟨_, rfl⟩
      obtain ⟨n1ft_, hn1ft_⟩ : ∃ zz, zz = own_p 1 w3ft_ (1 : Int32) ma1 := ⟨_, rfl⟩
      obtain ⟨n2ft_, hn2ft_⟩ : ∃ zz, zz = own_p 2 w3ft_ (1 : Int32) ma2 := ⟨_, rfl⟩
      have hWw3ft_ : (w3ft_ = 0 ∨ w3ft_ = 1 ∨ w3ft_ = 2) := by
        have q := own_L31 x y z ra0 ra1 ra2
        rw [H1, own_worstE hw1ft_ hw2ft_ hw3ft_] at q
        exact q he1
      have hRmwft_ : (mwft_ = 0 ∨ mwft_ = 1 ∨ mwft_ = 2) := by rw [hmwft_]; exact own_atr (P := fun i => (i = 0 ∨ i = 1 ∨ i = 2)) ra0 ra1 ra2
      have hRn0ft_ : (n0ft_ = 0 ∨ n0ft_ = 1 ∨ n0ft_ = 2) := by rw [hn0ft_]; exact own_pr (P := fun i => (i = 0 ∨ i = 1 ∨ i = 2)) (by decide) ra0
      have hRn1ft_ : (n1ft_ = 0 ∨ n1ft_ = 1 ∨ n1ft_ = 2) := by rw [hn1ft_]; exact own_pr (P := fun i => (i = 0 ∨ i = 1 ∨ i = 2)) (by decide) ra1
      have hRn2ft_ : (n2ft_ = 0 ∨ n2ft_ = 1 ∨ n2ft_ = 2) := by rw [hn2ft_]; exact own_pr (P := fun i => (i = 0 ∨ i = 1 ∨ i = 2)) (by decide) ra2
      have H2 : own_F2 x y z ma0 ma1 ma2 = (⟨d0ft_, (d1ft_ + (1 : Int32)), d2ft_, n0ft_, n1ft_, n2ft_, (1 : Int32)⟩ : own_St) := own_F2u H1 he1 hw1ft_ hw2ft_ hw3ft_ hmwft_ hd0ft_ hd1ft_ hd2ft_ hn0ft_ hn1ft_ hn2ft_
      have Fc178 := (Fc122.other W128 (Nat.ne_of_lt (Nat.lt_of_lt_of_le V_r0.lt (Nat.le_of_eq g101.symm))))
      obtain ⟨cl179, Ar179, qk179, Sz179, Nz179, Hh179, Gg179⟩ := id Fc178
      have hin180 : ¬ ((0 : Int32) < 0 ∨ cl179.slots.size ≤ ((0 : Int32)).toNatClampNeg) := inb_of Sz179 ⟨by decide, by decide⟩
      have hat180 : cl179.slots[((0 : Int32)).toNatClampNeg]? = some (.int ma0) := Has.at Hh179 hin180 rfl
      have hin181 : ¬ (ma0 < 0 ∨ cl131.slots.size ≤ (ma0).toNatClampNeg) := inb_of Sz131 (own_b3 ra0)
      have hat181 : cl131.slots[(ma0).toNatClampNeg]? = some (.int (own_at cc20 cc21 cc22 ma0)) := Has.at Hh131 hin181 (own_g3 ra0)
      have pre182 : ∀ t, Steps p.tables e below (T128.setTop (mkF m 85 #[oR r0, oR r1, oI 3, oR b101, oI 0, oI 1, oI (-1), oI 0] [(.int 1), (.int (own_at cc20 cc21 cc22 ma0))])) t → Steps p.tables e below (s₁.setTop (mkF m 0 #[oR r0, oR r1, oI 3, oU, oU, oU, oU, oU] [])) t := by
        intro t kt
        refine pre135 _ ?_
        show own_S p e below T128 m 59 #[oR r0, oR r1, oI 3, oR b101, oI 0, oI 1, oI 3, oI ma2] [(.int cc21)] _
        refine XS.ifYes X128.here hx rfl (pc0 := 59) (pc' := 65) rfl (hb hby d1_59) rfl ((if0 _ _).trans (flt (he1 : ¬ ((0 : Int32) < cc21))).2.2.2) (by decide) (by decide) ?_
        show own_S p e below T128 m 65 _ [] _
        refine XS.iconst X128.here hx rfl (hb hby d1_65) ?_
        show own_S p e below T128 m 66 _ [(.int (-1))] _
        refine XS.istore X128.here hx rfl (hb hby d1_66) rfl (l' := #[oR r0, oR r1, oI 3, oR b101, oI 0, oI 1, oI (-1), oI ma2]) rfl ?_
        show own_S p e below T128 m 68 #[oR r0, oR r1, oI 3, oR b101, oI 0, oI 1, oI (-1), oI ma2] [] _
        refine XS.iconst X128.here hx rfl (hb hby d1_68) ?_
        show own_S p e below T128 m 69 _ [(.int 0)] _
        refine XS.istore X128.here hx rfl (hb hby d1_69) rfl (l' := #[oR r0, oR r1, oI 3, oR b101, oI 0, oI 1, oI (-1), oI 0]) rfl ?_
        show own_S p e below T128 m 71 #[oR r0, oR r1, oI 3, oR b101, oI 0, oI 1, oI (-1), oI 0] [] _
        refine XS.iload X128.here hx rfl (hb hby d1_71) rfl ?_
        show own_S p e below T128 m 73 _ [(.int 0)] _
        refine XS.aloadN X128.here hx rfl (hb hby d1_73) rfl rfl ?_
        show own_S p e below T128 m 74 _ [(.ref r0), (.int 0)] _
        refine X128.arraylength hx (by rw [e128]; exact Ar179.1) (State.isArrayOf_alike hZ.alike Ar179.2.1) (g := (mkF m 74 #[oR r0, oR r1, oI 3, oR b101, oI 0, oI 1, oI (-1), oI 0] [(.ref r0), (.int 0)])) rfl rfl (hb hby d1_74) _ ?_
        rw [len_of Sz179 Nz179]
        show own_S p e below T128 m 75 _ [(.int 3), (.int 0)] _
        refine XS.icmpNo X128.here hx rfl (hb hby d1_75) rfl (tlt (by decide : (0 : Int32) < (3 : Int32))).2.1 ?_
        show own_S p e below T128 m 78 _ [] _
        refine XS.aloadN X128.here hx rfl (hb hby d1_78) rfl rfl ?_
        show own_S p e below T128 m 79 _ [(.ref b101)] _
        refine XS.aloadN X128.here hx rfl (hb hby d1_79) rfl rfl ?_
        show own_S p e below T128 m 80 _ [(.ref r0), (.ref b101)] _
        refine XS.iload X128.here hx rfl (hb hby d1_80) rfl ?_
        show own_S p e below T128 m 82 #[oR r0, oR r1, oI 3, oR b101, oI 0, oI 1, oI (-1), oI 0] [(.int 0), (.ref r0), (.ref b101)] _
        refine X128.iaload hx (j := (0 : Int32)) (v := (.int ma0)) (by rw [e128]; exact Ar179.1) (State.isArrayOf_alike hZ.alike Ar179.2.1) Ar179.2.2 hin180 hat180 (g := (mkF m 82 #[oR r0, oR r1, oI 3, oR b101, oI 0, oI 1, oI (-1), oI 0] [(.int 0), (.ref r0), (.ref b101)])) rfl rfl (hb hby d1_82) _ ?_
        show own_S p e below T128 m 83 _ [(.int ma0), (.ref b101)] _
        refine X128.iaload hx (j := ma0) (v := (.int (own_at cc20 cc21 cc22 ma0))) (by rw [e128]; exact Ar131.1) (State.isArrayOf_alike hZ.alike Ar131.2.1) Ar131.2.2 hin181 hat181 (g := (mkF m 83 #[oR r0, oR r1, oI 3, oR b101, oI 0, oI 1, oI (-1), oI 0] [(.int ma0), (.ref b101)])) rfl rfl (hb hby d1_83) _ ?_
        show own_S p e below T128 m 84 _ [(.int (own_at cc20 cc21 cc22 ma0))] _
        refine XS.iconst X128.here hx rfl (hb hby d1_84) ?_
        exact kt
      have pre183 : ∀ t, Steps p.tables e below (T128.setTop (mkF m 109 #[oR r0, oR r1, oI 3, oR b101, oI 0, oI 1, oI w1ft_, oI 0] [])) t → Steps p.tables e below (s₁.setTop (mkF m 0 #[oR r0, oR r1, oI 3, oU, oU, oU, oU, oU] [])) t := by
        intro t kt
        refine pre182 _ ?_
        show own_S p e below T128 m 85 #[oR r0, oR r1, oI 3, oR b101, oI 0, oI 1, oI (-1), oI 0] [(.int 1), (.int (own_at cc20 cc21 cc22 ma0))] _
        by_cases hj : (1 : Int32) < (own_at cc20 cc21 cc22 ma0)
        · skip
          refine XS.icmpNo X128.here hx rfl (hb hby d1_85) rfl (tlt (hj : (1 : Int32) < (own_at cc20 cc21 cc22 ma0))).2.2.2 ?_
          show own_S p e below T128 m 88 #[oR r0, oR r1, oI 3, oR b101, oI 0, oI 1, oI (-1), oI 0] [] _
          refine XS.iload X128.here hx rfl (hb hby d1_88) rfl ?_
          show own_S p e below T128 m 90 _ [(.int (-1))] _
          refine XS.ifYes X128.here hx rfl (pc0 := 90) (pc' := 105) rfl (hb hby d1_90) rfl ((if0 _ _).trans (tlt (by decide : (-1 : Int32) < (0 : Int32))).1) (by decide) (by decide) ?_
          show own_S p e below T128 m 105 _ [] _
          refine XS.iload X128.here hx rfl (hb hby d1_105) rfl ?_
          show own_S p e below T128 m 107 _ [(.int 0)] _
          refine XS.istore X128.here hx rfl (hb hby d1_107) rfl (l' := #[oR r0, oR r1, oI 3, oR b101, oI 0, oI 1, oI 0, oI 0]) rfl ?_
          rw [(hw1ft_.trans (if_pos hj) : w1ft_ = (0 : Int32))] at kt
          exact kt
        · skip
          refine XS.icmpYes X128.here hx rfl (pc0 := 85) (pc' := 109) rfl (hb hby d1_85) rfl (flt (hj : ¬ ((1 : Int32) < (own_at cc20 cc21 cc22 ma0)))).2.2.2 (by decide) (by decide) ?_
          rw [(hw1ft_.trans (if_neg hj) : w1ft_ = (-1 : Int32))] at kt
          exact kt
      have hin184 : ¬ ((1 : Int32) < 0 ∨ cl179.slots.size ≤ ((1 : Int32)).toNatClampNeg) := inb_of Sz179 ⟨by decide, by decide⟩
      have hat184 : cl179.slots[((1 : Int32)).toNatClampNeg]? = some (.int ma1) := Has.at Hh179 hin184 rfl
      have hin185 : ¬ (ma1 < 0 ∨ cl131.slots.size ≤ (ma1).toNatClampNeg) := inb_of Sz131 (own_b3 ra1)
      have hat185 : cl131.slots[(ma1).toNatClampNeg]? = some (.int (own_at cc20 cc21 cc22 ma1)) := Has.at Hh131 hin185 (own_g3 ra1)
      have pre186 : ∀ t, Steps p.tables e below (T128.setTop (mkF m 85 #[oR r0, oR r1, oI 3, oR b101, oI 0, oI 1, oI w1ft_, oI 1] [(.int 1), (.int (own_at cc20 cc21 cc22 ma1))])) t → Steps p.tables e below (s₁.setTop (mkF m 0 #[oR r0, oR r1, oI 3, oU, oU, oU, oU, oU] [])) t := by
        intro t kt
        refine pre183 _ ?_
        show own_S p e below T128 m 109 #[oR r0, oR r1, oI 3, oR b101, oI 0, oI 1, oI w1ft_, oI 0] [] _
        refine XS.iinc X128.here hx rfl (hb hby d1_109) rfl (l' := #[oR r0, oR r1, oI 3, oR b101, oI 0, oI 1, oI w1ft_, oI 1]) rfl ?_
        show own_S p e below T128 m 112 #[oR r0, oR r1, oI 3, oR b101, oI 0, oI 1, oI w1ft_, oI 1] [] _
        refine XS.goto X128.here hx rfl (pc0 := 112) (pc' := 71) rfl (hb hby d1_112) (by decide) (by decide) ?_
        show own_S p e below T128 m 71 _ [] _
        refine XS.iload X128.here hx rfl (hb hby d1_71) rfl ?_
        show own_S p e below T128 m 73 _ [(.int 1)] _
        refine XS.aloadN X128.here hx rfl (hb hby d1_73) rfl rfl ?_
        show own_S p e below T128 m 74 _ [(.ref r0), (.int 1)] _
        refine X128.arraylength hx (by rw [e128]; exact Ar179.1) (State.isArrayOf_alike hZ.alike Ar179.2.1) (g := (mkF m 74 #[oR r0, oR r1, oI 3, oR b101, oI 0, oI 1, oI w1ft_, oI 1] [(.ref r0), (.int 1)])) rfl rfl (hb hby d1_74) _ ?_
        rw [len_of Sz179 Nz179]
        show own_S p e below T128 m 75 _ [(.int 3), (.int 1)] _
        refine XS.icmpNo X128.here hx rfl (hb hby d1_75) rfl (tlt (by decide : (1 : Int32) < (3 : Int32))).2.1 ?_
        show own_S p e below T128 m 78 _ [] _
        refine XS.aloadN X128.here hx rfl (hb hby d1_78) rfl rfl ?_
        show own_S p e below T128 m 79 _ [(.ref b101)] _
        refine XS.aloadN X128.here hx rfl (hb hby d1_79) rfl rfl ?_
        show own_S p e below T128 m 80 #[oR r0, oR r1, oI 3, oR b101, oI 0, oI 1, oI w1ft_, oI 1] [(.ref r0), (.ref b101)] _
        refine XS.iload X128.here hx rfl (hb hby d1_80) rfl ?_
        show own_S p e below T128 m 82 _ [(.int 1), (.ref r0), (.ref b101)] _
        refine X128.iaload hx (j := (1 : Int32)) (v := (.int ma1)) (by rw [e128]; exact Ar179.1) (State.isArrayOf_alike hZ.alike Ar179.2.1) Ar179.2.2 hin184 hat184 (g := (mkF m 82 #[oR r0, oR r1, oI 3, oR b101, oI 0, oI 1, oI w1ft_, oI 1] [(.int 1), (.ref r0), (.ref b101)])) rfl rfl (hb hby d1_82) _ ?_
        show own_S p e below T128 m 83 _ [(.int ma1), (.ref b101)] _
        refine X128.iaload hx (j := ma1) (v := (.int (own_at cc20 cc21 cc22 ma1))) (by rw [e128]; exact Ar131.1) (State.isArrayOf_alike hZ.alike Ar131.2.1) Ar131.2.2 hin185 hat185 (g := (mkF m 83 #[oR r0, oR r1, oI 3, oR b101, oI 0, oI 1, oI w1ft_, oI 1] [(.int ma1), (.ref b101)])) rfl rfl (hb hby d1_83) _ ?_
        show own_S p e below T128 m 84 _ [(.int (own_at cc20 cc21 cc22 ma1))] _
        refine XS.iconst X128.here hx rfl (hb hby d1_84) ?_
        exact kt
      have pre191 : ∀ t, Steps p.tables e below (T128.setTop (mkF m 109 #[oR r0, oR r1, oI 3, oR b101, oI 0, oI 1, oI w2ft_, oI 1] [])) t → Steps p.tables e below (s₁.setTop (mkF m 0 #[oR r0, oR r1, oI 3, oU, oU, oU, oU, oU] [])) t := by
        intro t kt
        refine pre186 _ ?_
        show own_S p e below T128 m 85 #[oR r0, oR r1, oI 3, oR b101, oI 0, oI 1, oI w1ft_, oI 1] [(.int 1), (.int (own_at cc20 cc21 cc22 ma1))] _
        by_cases hj : (1 : Int32) < (own_at cc20 cc21 cc22 ma1)
        · skip
          refine XS.icmpNo X128.here hx rfl (hb hby d1_85) rfl (tlt (hj : (1 : Int32) < (own_at cc20 cc21 cc22 ma1))).2.2.2 ?_
          show own_S p e below T128 m 88 #[oR r0, oR r1, oI 3, oR b101, oI 0, oI 1, oI w1ft_, oI 1] [] _
          refine XS.iload X128.here hx rfl (hb hby d1_88) rfl ?_
          show own_S p e below T128 m 90 _ [(.int w1ft_)] _
          by_cases hn : w1ft_ < (0 : Int32)
          · skip
            refine XS.ifYes X128.here hx rfl (pc0 := 90) (pc' := 105) rfl (hb hby d1_90) rfl ((if0 _ _).trans (tlt (hn : w1ft_ < (0 : Int32))).1) (by decide) (by decide) ?_
            show own_S p e below T128 m 105 #[oR r0, oR r1, oI 3, oR b101, oI 0, oI 1, oI w1ft_, oI 1] [] _
            refine XS.iload X128.here hx rfl (hb hby d1_105) rfl ?_
            show own_S p e below T128 m 107 _ [(.int 1)] _
            refine XS.istore X128.here hx rfl (hb hby d1_107) rfl (l' := #[oR r0, oR r1, oI 3, oR b101, oI 0, oI 1, oI 1, oI 1]) rfl ?_
            rw [(hw2ft_.trans (own_w2TT hj hn) : w2ft_ = (1 : Int32))] at kt
            exact kt
          · skip
            have Fc187 := ((((V_r1.ext E101).other W110 (Nat.ne_of_lt (Nat.lt_of_lt_of_le V_r1.lt (Nat.le_of_eq g101.symm)))).other W119 (Nat.ne_of_lt (Nat.lt_of_lt_of_le V_r1.lt (Nat.le_of_eq g101.symm)))).other W128 (Nat.ne_of_lt (Nat.lt_of_lt_of_le V_r1.lt (Nat.le_of_eq g101.symm))))
            obtain ⟨cl188, Ar188, qk188, Sz188, Nz188, Hh188, Gg188⟩ := id Fc187
            have hin189 : ¬ ((1 : Int32) < 0 ∨ cl188.slots.size ≤ ((1 : Int32)).toNatClampNeg) := inb_of Sz188 ⟨by decide, by decide⟩
            have hat189 : cl188.slots[((1 : Int32)).toNatClampNeg]? = some (.double f1) := Has.at Hh188 hin189 rfl
            have hin190 : ¬ (w1ft_ < 0 ∨ cl188.slots.size ≤ (w1ft_).toNatClampNeg) := inb_of Sz188 (own_b00 (own_w1z hw1ft_ hn))
            have hat190 : cl188.slots[(w1ft_).toNatClampNeg]? = some (.double f0) := Has.at Hh188 hin190 (own_gd0 (own_w1z hw1ft_ hn))
            refine XS.ifNo X128.here hx rfl (hb hby d1_90) rfl ((if0 _ _).trans (flt (hn : ¬ (w1ft_ < (0 : Int32)))).1) ?_
            show own_S p e below T128 m 93 #[oR r0, oR r1, oI 3, oR b101, oI 0, oI 1, oI w1ft_, oI 1] [] _
            refine XS.aloadN X128.here hx rfl (hb hby d1_93) rfl rfl ?_
            show own_S p e below T128 m 94 _ [(.ref r1)] _
            refine XS.iload X128.here hx rfl (hb hby d1_94) rfl ?_
            show own_S p e below T128 m 96 _ [(.int 1), (.ref r1)] _
            refine X128.daload hx (j := (1 : Int32)) (v := (.double f1)) (by rw [e128]; exact Ar188.1) (State.isArrayOf_alike hZ.alike Ar188.2.1) Ar188.2.2 hin189 hat189 (g := (mkF m 96 #[oR r0, oR r1, oI 3, oR b101, oI 0, oI 1, oI w1ft_, oI 1] [(.int 1), (.ref r1)])) rfl rfl (hb hby d1_96) _ ?_
            show own_S p e below T128 m 97 _ [(.double f1)] _
            refine XS.aloadN X128.here hx rfl (hb hby d1_97) rfl rfl ?_
            show own_S p e below T128 m 98 _ [(.ref r1), (.double f1)] _
            refine XS.iload X128.here hx rfl (hb hby d1_98) rfl ?_
            show own_S p e below T128 m 100 _ [(.int w1ft_), (.ref r1), (.double f1)] _
            refine X128.daload hx (j := w1ft_) (v := (.double f0)) (by rw [e128]; exact Ar188.1) (State.isArrayOf_alike hZ.alike Ar188.2.1) Ar188.2.2 hin190 hat190 (g := (mkF m 100 #[oR r0, oR r1, oI 3, oR b101, oI 0, oI 1, oI w1ft_, oI 1] [(.int w1ft_), (.ref r1), (.double f1)])) rfl rfl (hb hby d1_100) _ ?_
            show own_S p e below T128 m 101 _ [(.double f0), (.double f1)] _
            refine XS.dcmpS X128.here hx rfl (v := (cmpValue (FP.dcmp f1 f0) .g)) (hb hby d1_101) rfl rfl ?_
            show own_S p e below T128 m 102 #[oR r0, oR r1, oI 3, oR b101, oI 0, oI 1, oI w1ft_, oI 1] [(.int (cmpValue (FP.dcmp f1 f0) .g))] _
            by_cases hd : (cmpValue (FP.dcmp f1 f0) .g) < (0 : Int32)
            · skip
              refine XS.ifNo X128.here hx rfl (hb hby d1_102) rfl ((if0 _ _).trans (tlt (hd : (cmpValue (FP.dcmp f1 f0) .g) < (0 : Int32))).2.1) ?_
              show own_S p e below T128 m 105 #[oR r0, oR r1, oI 3, oR b101, oI 0, oI 1, oI w1ft_, oI 1] [] _
              refine XS.iload X128.here hx rfl (hb hby d1_105) rfl ?_
              show own_S p e below T128 m 107 _ [(.int 1)] _
              refine XS.istore X128.here hx rfl (hb hby d1_107) rfl (l' := #[oR r0, oR r1, oI 3, oR b101, oI 0, oI 1, oI 1, oI 1]) rfl ?_
              rw [(hw2ft_.trans (own_w2TFT hj hn (cx.mp hd)) : w2ft_ = (1 : Int32))] at kt
              exact kt
            · skip
              refine XS.ifYes X128.here hx rfl (pc0 := 102) (pc' := 109) rfl (hb hby d1_102) rfl ((if0 _ _).trans (flt (hd : ¬ ((cmpValue (FP.dcmp f1 f0) .g) < (0 : Int32)))).2.1) (by decide) (by decide) ?_
              rw [(hw2ft_.trans (own_w2TFF hj hn (fun q => hd (cx.mpr q))) : w2ft_ = w1ft_)] at kt
              exact kt
        · skip
          refine XS.icmpYes X128.here hx rfl (pc0 := 85) (pc' := 109) rfl (hb hby d1_85) rfl (flt (hj : ¬ ((1 : Int32) < (own_at cc20 cc21 cc22 ma1)))).2.2.2 (by decide) (by decide) ?_
          rw [(hw2ft_.trans (own_w2F hj) : w2ft_ = w1ft_)] at kt
          exact kt
      have hin192 : ¬ ((2 : Int32) < 0 ∨ cl179.slots.size ≤ ((2 : Int32)).toNatClampNeg) := inb_of Sz179 ⟨by decide, by decide⟩
      have hat192 : cl179.slots[((2 : Int32)).toNatClampNeg]? = some (.int ma2) := Has.at Hh179 hin192 rfl
      have hin193 : ¬ (ma2 < 0 ∨ cl131.slots.size ≤ (ma2).toNatClampNeg) := inb_of Sz131 (own_b3 ra2)
      have hat193 : cl131.slots[(ma2).toNatClampNeg]? = some (.int (own_at cc20 cc21 cc22 ma2)) := Has.at Hh131 hin193 (own_g3 ra2)
      have pre194 : ∀ t, Steps p.tables e below (T128.setTop (mkF m 85 #[oR r0, oR r1, oI 3, oR b101, oI 0, oI 1, oI w2ft_, oI 2] [(.int 1), (.int (own_at cc20 cc21 cc22 ma2))])) t → Steps p.tables e below (s₁.setTop (mkF m 0 #[oR r0, oR r1, oI 3, oU, oU, oU, oU, oU] [])) t := by
        intro t kt
        refine pre191 _ ?_
        show own_S p e below T128 m 109 #[oR r0, oR r1, oI 3, oR b101, oI 0, oI 1, oI w2ft_, oI 1] [] _
        refine XS.iinc X128.here hx rfl (hb hby d1_109) rfl (l' := #[oR r0, oR r1, oI 3, oR b101, oI 0, oI 1, oI w2ft_, oI 2]) rfl ?_
        show own_S p e below T128 m 112 #[oR r0, oR r1, oI 3, oR b101, oI 0, oI 1, oI w2ft_, oI 2] [] _
        refine XS.goto X128.here hx rfl (pc0 := 112) (pc' := 71) rfl (hb hby d1_112) (by decide) (by decide) ?_
        show own_S p e below T128 m 71 _ [] _
        refine XS.iload X128.here hx rfl (hb hby d1_71) rfl ?_
        show own_S p e below T128 m 73 _ [(.int 2)] _
        refine XS.aloadN X128.here hx rfl (hb hby d1_73) rfl rfl ?_
        show own_S p e below T128 m 74 _ [(.ref r0), (.int 2)] _
        refine X128.arraylength hx (by rw [e128]; exact Ar179.1) (State.isArrayOf_alike hZ.alike Ar179.2.1) (g := (mkF m 74 #[oR r0, oR r1, oI 3, oR b101, oI 0, oI 1, oI w2ft_, oI 2] [(.ref r0), (.int 2)])) rfl rfl (hb hby d1_74) _ ?_
        rw [len_of Sz179 Nz179]
        show own_S p e below T128 m 75 _ [(.int 3), (.int 2)] _
        refine XS.icmpNo X128.here hx rfl (hb hby d1_75) rfl (tlt (by decide : (2 : Int32) < (3 : Int32))).2.1 ?_
        show own_S p e below T128 m 78 _ [] _
        refine XS.aloadN X128.here hx rfl (hb hby d1_78) rfl rfl ?_
        show own_S p e below T128 m 79 _ [(.ref b101)] _
        refine XS.aloadN X128.here hx rfl (hb hby d1_79) rfl rfl ?_
        show own_S p e below T128 m 80 #[oR r0, oR r1, oI 3, oR b101, oI 0, oI 1, oI w2ft_, oI 2] [(.ref r0), (.ref b101)] _
        refine XS.iload X128.here hx rfl (hb hby d1_80) rfl ?_
        show own_S p e below T128 m 82 _ [(.int 2), (.ref r0), (.ref b101)] _
        refine X128.iaload hx (j := (2 : Int32)) (v := (.int ma2)) (by rw [e128]; exact Ar179.1) (State.isArrayOf_alike hZ.alike Ar179.2.1) Ar179.2.2 hin192 hat192 (g := (mkF m 82 #[oR r0, oR r1, oI 3, oR b101, oI 0, oI 1, oI w2ft_, oI 2] [(.int 2), (.ref r0), (.ref b101)])) rfl rfl (hb hby d1_82) _ ?_
        show own_S p e below T128 m 83 _ [(.int ma2), (.ref b101)] _
        refine X128.iaload hx (j := ma2) (v := (.int (own_at cc20 cc21 cc22 ma2))) (by rw [e128]; exact Ar131.1) (State.isArrayOf_alike hZ.alike Ar131.2.1) Ar131.2.2 hin193 hat193 (g := (mkF m 83 #[oR r0, oR r1, oI 3, oR b101, oI 0, oI 1, oI w2ft_, oI 2] [(.int ma2), (.ref b101)])) rfl rfl (hb hby d1_83) _ ?_
        show own_S p e below T128 m 84 _ [(.int (own_at cc20 cc21 cc22 ma2))] _
        refine XS.iconst X128.here hx rfl (hb hby d1_84) ?_
        exact kt
      have pre199 : ∀ t, Steps p.tables e below (T128.setTop (mkF m 109 #[oR r0, oR r1, oI 3, oR b101, oI 0, oI 1, oI w3ft_, oI 2] [])) t → Steps p.tables e below (s₁.setTop (mkF m 0 #[oR r0, oR r1, oI 3, oU, oU, oU, oU, oU] [])) t := by
        intro t kt
        refine pre194 _ ?_
        show own_S p e below T128 m 85 #[oR r0, oR r1, oI 3, oR b101, oI 0, oI 1, oI w2ft_, oI 2] [(.int 1), (.int (own_at cc20 cc21 cc22 ma2))] _
        by_cases hj : (1 : Int32) < (own_at cc20 cc21 cc22 ma2)
        · skip
          refine XS.icmpNo X128.here hx rfl (hb hby d1_85) rfl (tlt (hj : (1 : Int32) < (own_at cc20 cc21 cc22 ma2))).2.2.2 ?_
          show own_S p e below T128 m 88 #[oR r0, oR r1, oI 3, oR b101, oI 0, oI 1, oI w2ft_, oI 2] [] _
          refine XS.iload X128.here hx rfl (hb hby d1_88) rfl ?_
          show own_S p e below T128 m 90 _ [(.int w2ft_)] _
          by_cases hn : w2ft_ < (0 : Int32)
          · skip
            refine XS.ifYes X128.here hx rfl (pc0 := 90) (pc' := 105) rfl (hb hby d1_90) rfl ((if0 _ _).trans (tlt (hn : w2ft_ < (0 : Int32))).1) (by decide) (by decide) ?_
            show own_S p e below T128 m 105 #[oR r0, oR r1, oI 3, oR b101, oI 0, oI 1, oI w2ft_, oI 2] [] _
            refine XS.iload X128.here hx rfl (hb hby d1_105) rfl ?_
            show own_S p e below T128 m 107 _ [(.int 2)] _
            refine XS.istore X128.here hx rfl (hb hby d1_107) rfl (l' := #[oR r0, oR r1, oI 3, oR b101, oI 0, oI 1, oI 2, oI 2]) rfl ?_
            rw [(hw3ft_.trans (own_w3TT hj hn) : w3ft_ = (2 : Int32))] at kt
            exact kt
          · skip
            have Fc195 := ((((V_r1.ext E101).other W110 (Nat.ne_of_lt (Nat.lt_of_lt_of_le V_r1.lt (Nat.le_of_eq g101.symm)))).other W119 (Nat.ne_of_lt (Nat.lt_of_lt_of_le V_r1.lt (Nat.le_of_eq g101.symm)))).other W128 (Nat.ne_of_lt (Nat.lt_of_lt_of_le V_r1.lt (Nat.le_of_eq g101.symm))))
            obtain ⟨cl196, Ar196, qk196, Sz196, Nz196, Hh196, Gg196⟩ := id Fc195
            have hin197 : ¬ ((2 : Int32) < 0 ∨ cl196.slots.size ≤ ((2 : Int32)).toNatClampNeg) := inb_of Sz196 ⟨by decide, by decide⟩
            have hat197 : cl196.slots[((2 : Int32)).toNatClampNeg]? = some (.double f2) := Has.at Hh196 hin197 rfl
            have hin198 : ¬ (w2ft_ < 0 ∨ cl196.slots.size ≤ (w2ft_).toNatClampNeg) := inb_of Sz196 (own_b01 (own_w2z hw1ft_ hw2ft_ hn))
            have hat198 : cl196.slots[(w2ft_).toNatClampNeg]? = some (.double (own_atD f0 f1 w2ft_)) := Has.at Hh196 hin198 (own_gd (own_w2z hw1ft_ hw2ft_ hn))
            refine XS.ifNo X128.here hx rfl (hb hby d1_90) rfl ((if0 _ _).trans (flt (hn : ¬ (w2ft_ < (0 : Int32)))).1) ?_
            show own_S p e below T128 m 93 #[oR r0, oR r1, oI 3, oR b101, oI 0, oI 1, oI w2ft_, oI 2] [] _
            refine XS.aloadN X128.here hx rfl (hb hby d1_93) rfl rfl ?_
            show own_S p e below T128 m 94 _ [(.ref r1)] _
            refine XS.iload X128.here hx rfl (hb hby d1_94) rfl ?_
            show own_S p e below T128 m 96 _ [(.int 2), (.ref r1)] _
            refine X128.daload hx (j := (2 : Int32)) (v := (.double f2)) (by rw [e128]; exact Ar196.1) (State.isArrayOf_alike hZ.alike Ar196.2.1) Ar196.2.2 hin197 hat197 (g := (mkF m 96 #[oR r0, oR r1, oI 3, oR b101, oI 0, oI 1, oI w2ft_, oI 2] [(.int 2), (.ref r1)])) rfl rfl (hb hby d1_96) _ ?_
            show own_S p e below T128 m 97 _ [(.double f2)] _
            refine XS.aloadN X128.here hx rfl (hb hby d1_97) rfl rfl ?_
            show own_S p e below T128 m 98 _ [(.ref r1), (.double f2)] _
            refine XS.iload X128.here hx rfl (hb hby d1_98) rfl ?_
            show own_S p e below T128 m 100 _ [(.int w2ft_), (.ref r1), (.double f2)] _
            refine X128.daload hx (j := w2ft_) (v := (.double (own_atD f0 f1 w2ft_))) (by rw [e128]; exact Ar196.1) (State.isArrayOf_alike hZ.alike Ar196.2.1) Ar196.2.2 hin198 hat198 (g := (mkF m 100 #[oR r0, oR r1, oI 3, oR b101, oI 0, oI 1, oI w2ft_, oI 2] [(.int w2ft_), (.ref r1), (.double f2)])) rfl rfl (hb hby d1_100) _ ?_
            show own_S p e below T128 m 101 _ [(.double (own_atD f0 f1 w2ft_)), (.double f2)] _
            refine XS.dcmpS X128.here hx rfl (v := (cmpValue (FP.dcmp f2 (own_atD f0 f1 w2ft_)) .g)) (hb hby d1_101) rfl rfl ?_
            show own_S p e below T128 m 102 #[oR r0, oR r1, oI 3, oR b101, oI 0, oI 1, oI w2ft_, oI 2] [(.int (cmpValue (FP.dcmp f2 (own_atD f0 f1 w2ft_)) .g))] _
            by_cases hd : (cmpValue (FP.dcmp f2 (own_atD f0 f1 w2ft_)) .g) < (0 : Int32)
            · skip
              refine XS.ifNo X128.here hx rfl (hb hby d1_102) rfl ((if0 _ _).trans (tlt (hd : (cmpValue (FP.dcmp f2 (own_atD f0 f1 w2ft_)) .g) < (0 : Int32))).2.1) ?_
              show own_S p e below T128 m 105 #[oR r0, oR r1, oI 3, oR b101, oI 0, oI 1, oI w2ft_, oI 2] [] _
              refine XS.iload X128.here hx rfl (hb hby d1_105) rfl ?_
              show own_S p e below T128 m 107 _ [(.int 2)] _
              refine XS.istore X128.here hx rfl (hb hby d1_107) rfl (l' := #[oR r0, oR r1, oI 3, oR b101, oI 0, oI 1, oI 2, oI 2]) rfl ?_
              rw [(hw3ft_.trans (own_w3TFT hj hn ((own_cyz (own_w2z hw1ft_ hw2ft_ hn) cy cz).mp hd)) : w3ft_ = (2 : Int32))] at kt
              exact kt
            · skip
              refine XS.ifYes X128.here hx rfl (pc0 := 102) (pc' := 109) rfl (hb hby d1_102) rfl ((if0 _ _).trans (flt (hd : ¬ ((cmpValue (FP.dcmp f2 (own_atD f0 f1 w2ft_)) .g) < (0 : Int32)))).2.1) (by decide) (by decide) ?_
              rw [(hw3ft_.trans (own_w3TFF hj hn (fun q => hd ((own_cyz (own_w2z hw1ft_ hw2ft_ hn) cy cz).mpr q))) : w3ft_ = w2ft_)] at kt
              exact kt
        · skip
          refine XS.icmpYes X128.here hx rfl (pc0 := 85) (pc' := 109) rfl (hb hby d1_85) rfl (flt (hj : ¬ ((1 : Int32) < (own_at cc20 cc21 cc22 ma2)))).2.2.2 (by decide) (by decide) ?_
          rw [(hw3ft_.trans (own_w3F hj) : w3ft_ = w2ft_)] at kt
          exact kt
      have hin200 : ¬ (w3ft_ < 0 ∨ cl179.slots.size ≤ (w3ft_).toNatClampNeg) := inb_of Sz179 (own_b3 hWw3ft_)
      have hat200 : cl179.slots[(w3ft_).toNatClampNeg]? = some (.int mwft_) := Has.at Hh179 hin200 (by rw [hmwft_]; exact own_g3 hWw3ft_)
      have hin201 : ¬ (mwft_ < 0 ∨ cl131.slots.size ≤ (mwft_).toNatClampNeg) := inb_of Sz131 (own_b3 hRmwft_)
      have hat201 : cl131.slots[(mwft_).toNatClampNeg]? = some (.int (own_at cc20 cc21 cc22 mwft_)) := Has.at Hh131 hin201 (own_g3 hRmwft_)
      have hin202 : ¬ (mwft_ < 0 ∨ cl131.slots.size ≤ (mwft_).toNatClampNeg) := inb_of Sz131 (own_b3 hRmwft_)
      obtain ⟨T203, h203, X203, e203, W203, st203⟩ := stI X128 hx hZ e128 Ar131 (j := mwft_) hin202 (g := (mkF m 124 #[oR r0, oR r1, oI 3, oR b101, oI 0, oI 1, oI w3ft_, oI 3] [(.int ((own_at cc20 cc21 cc22 mwft_) - (1 : Int32))), (.int mwft_), (.ref b101)])) rfl rfl (hb hby d1_124)
      have Va203 := Arv.set Ar131 qk131 Sz131 Nz131 Hh131 Gg131 rfl W203 (mwft_).toNatClampNeg rfl (own_l3 hRmwft_)
      have Vs203 : Arv Z h203 b101 k101 .int (3 : Int32) [(.int d0ft_), (.int d1ft_), (.int d2ft_)] (.int 0) := by rw [← (by rw [hd0ft_, hd1ft_, hd2ft_]; exact own_s3 hRmwft_ : ([(.int cc20), (.int cc21), (.int cc22)] : List Value).set (mwft_).toNatClampNeg (.int ((own_at cc20 cc21 cc22 mwft_) - (1 : Int32))) = [(.int d0ft_), (.int d1ft_), (.int d2ft_)])]; exact Va203
      have N203 := Fr.snoc X203 N128 g_b101
      have ZZ204 : n0 ≤ h203.size := Nat.le_trans ZZ129 (Nat.le_of_eq W203.size.symm)
      have KK205 : Keep h0 h203 [r0] := KK130.wr W203 (Or.inr sz_b101)
      obtain ⟨cl206, Ar206, qk206, Sz206, Nz206, Hh206, Gg206⟩ := id Vs203
      have hin207 : ¬ ((1 : Int32) < 0 ∨ cl206.slots.size ≤ ((1 : Int32)).toNatClampNeg) := inb_of Sz206 ⟨by decide, by decide⟩
      have hat207 : cl206.slots[((1 : Int32)).toNatClampNeg]? = some (.int d1ft_) := Has.at Hh206 hin207 rfl
      have hin208 : ¬ ((1 : Int32) < 0 ∨ cl206.slots.size ≤ ((1 : Int32)).toNatClampNeg) := inb_of Sz206 ⟨by decide, by decide⟩
      obtain ⟨T209, h209, X209, e209, W209, st209⟩ := stI X203 hx hZ e203 Ar206 (j := (1 : Int32)) hin208 (g := (mkF m 132 #[oR r0, oR r1, oI 3, oR b101, oI 0, oI 1, oI w3ft_, oI 3] [(.int (d1ft_ + (1 : Int32))), (.int 1), (.ref b101)])) rfl rfl (hb hby d1_132)
      have Va209 := Arv.set Ar206 qk206 Sz206 Nz206 Hh206 Gg206 rfl W209 1 rfl (Nat.le_of_ble_eq_true rfl)
      have N209 := Fr.snoc X209 N203 g_b101
      have ZZ210 : n0 ≤ h209.size := Nat.le_trans ZZ204 (Nat.le_of_eq W209.size.symm)
      have KK211 : Keep h0 h209 [r0] := KK205.wr W209 (Or.inr sz_b101)
      have Fc212 := ((Fc178.other W203 (Nat.ne_of_lt (Nat.lt_of_lt_of_le V_r0.lt (Nat.le_of_eq g101.symm)))).other W209 (Nat.ne_of_lt (Nat.lt_of_lt_of_le V_r0.lt (Nat.le_of_eq g101.symm))))
      obtain ⟨cl213, Ar213, qk213, Sz213, Nz213, Hh213, Gg213⟩ := id Fc212
      have hin214 : ¬ (w3ft_ < 0 ∨ cl213.slots.size ≤ (w3ft_).toNatClampNeg) := inb_of Sz213 (own_b3 hWw3ft_)
      obtain ⟨T215, h215, X215, e215, W215, st215⟩ := stI X209 hx hZ e209 Ar213 (j := w3ft_) hin214 (g := (mkF m 138 #[oR r0, oR r1, oI 3, oR b101, oI 0, oI 1, oI w3ft_, oI 3] [(.int 1), (.int w3ft_), (.ref r0)])) rfl rfl (hb hby d1_138)
      have Va215 := Arv.set Ar213 qk213 Sz213 Nz213 Hh213 Gg213 rfl W215 (w3ft_).toNatClampNeg rfl (own_l3 hWw3ft_)
      have Vs215 : Arv Z h215 r0 ka .int (3 : Int32) [(.int n0ft_), (.int n1ft_), (.int n2ft_)] (.int 0) := by rw [← (by rw [hn0ft_, hn1ft_, hn2ft_]; exact own_s3 hWw3ft_ : ([(.int ma0), (.int ma1), (.int ma2)] : List Value).set (w3ft_).toNatClampNeg (.int 1) = [(.int n0ft_), (.int n1ft_), (.int n2ft_)])]; exact Va215
      have N215 := Fr.snoc X215 N209 g_r0
      have ZZ216 : n0 ≤ h215.size := Nat.le_trans ZZ210 (Nat.le_of_eq W215.size.symm)
      have KK217 : Keep h0 h215 [r0] := KK211.wr W215 (Or.inl (List.mem_of_getElem? (i := 0) rfl))
      have Fc218 := (Va209.other W215 (Ne.symm (Nat.ne_of_lt (Nat.lt_of_lt_of_le V_r0.lt (Nat.le_of_eq g101.symm)))))
      obtain ⟨cl219, Ar219, qk219, Sz219, Nz219, Hh219, Gg219⟩ := id Fc218
      have hin220 : ¬ ((2 : Int32) < 0 ∨ cl219.slots.size ≤ ((2 : Int32)).toNatClampNeg) := inb_of Sz219 ⟨by decide, by decide⟩
      have hat220 : cl219.slots[((2 : Int32)).toNatClampNeg]? = some (.int d2ft_) := Has.at Hh219 hin220 rfl
      have pre221 : ∀ t, Steps p.tables e below (T215.setTop (mkF m 59 #[oR r0, oR r1, oI 3, oR b101, oI 1, oI 2, oI w3ft_, oI 3] [(.int d2ft_)])) t → Steps p.tables e below (s₁.setTop (mkF m 0 #[oR r0, oR r1, oI 3, oU, oU, oU, oU, oU] [])) t := by
        intro t kt
        refine pre199 _ ?_
        show own_S p e below T128 m 109 #[oR r0, oR r1, oI 3, oR b101, oI 0, oI 1, oI w3ft_, oI 2] [] _
        refine XS.iinc X128.here hx rfl (hb hby d1_109) rfl (l' := #[oR r0, oR r1, oI 3, oR b101, oI 0, oI 1, oI w3ft_, oI 3]) rfl ?_
        show own_S p e below T128 m 112 #[oR r0, oR r1, oI 3, oR b101, oI 0, oI 1, oI w3ft_, oI 3] [] _
        refine XS.goto X128.here hx rfl (pc0 := 112) (pc' := 71) rfl (hb hby d1_112) (by decide) (by decide) ?_
        show own_S p e below T128 m 71 _ [] _
        refine XS.iload X128.here hx rfl (hb hby d1_71) rfl ?_
        show own_S p e below T128 m 73 _ [(.int 3)] _
        refine XS.aloadN X128.here hx rfl (hb hby d1_73) rfl rfl ?_
        show own_S p e below T128 m 74 _ [(.ref r0), (.int 3)] _
        refine X128.arraylength hx (by rw [e128]; exact Ar179.1) (State.isArrayOf_alike hZ.alike Ar179.2.1) (g := (mkF m 74 #[oR r0, oR r1, oI 3, oR b101, oI 0, oI 1, oI w3ft_, oI 3] [(.ref r0), (.int 3)])) rfl rfl (hb hby d1_74) _ ?_
        rw [len_of Sz179 Nz179]
        show own_S p e below T128 m 75 _ [(.int 3), (.int 3)] _
        refine XS.icmpYes X128.here hx rfl (pc0 := 75) (pc' := 115) rfl (hb hby d1_75) rfl (flt (by decide : ¬ ((3 : Int32) < (3 : Int32)))).2.1 (by decide) (by decide) ?_
        show own_S p e below T128 m 115 _ [] _
        refine XS.aloadN X128.here hx rfl (hb hby d1_115) rfl rfl ?_
        show own_S p e below T128 m 116 _ [(.ref b101)] _
        refine XS.aloadN X128.here hx rfl (hb hby d1_116) rfl rfl ?_
        show own_S p e below T128 m 117 #[oR r0, oR r1, oI 3, oR b101, oI 0, oI 1, oI w3ft_, oI 3] [(.ref r0), (.ref b101)] _
        refine XS.iload X128.here hx rfl (hb hby d1_117) rfl ?_
        show own_S p e below T128 m 119 _ [(.int w3ft_), (.ref r0), (.ref b101)] _
        refine X128.iaload hx (j := w3ft_) (v := (.int mwft_)) (by rw [e128]; exact Ar179.1) (State.isArrayOf_alike hZ.alike Ar179.2.1) Ar179.2.2 hin200 hat200 (g := (mkF m 119 #[oR r0, oR r1, oI 3, oR b101, oI 0, oI 1, oI w3ft_, oI 3] [(.int w3ft_), (.ref r0), (.ref b101)])) rfl rfl (hb hby d1_119) _ ?_
        show own_S p e below T128 m 120 _ [(.int mwft_), (.ref b101)] _
        jvm_step X128.here [X128.here.top, hx, (hb hby d1_120), Value.category]
        show own_S p e below T128 m 121 #[oR r0, oR r1, oI 3, oR b101, oI 0, oI 1, oI w3ft_, oI 3] [(.int mwft_), (.ref b101), (.int mwft_), (.ref b101)] _
        refine X128.iaload hx (j := mwft_) (v := (.int (own_at cc20 cc21 cc22 mwft_))) (by rw [e128]; exact Ar131.1) (State.isArrayOf_alike hZ.alike Ar131.2.1) Ar131.2.2 hin201 hat201 (g := (mkF m 121 #[oR r0, oR r1, oI 3, oR b101, oI 0, oI 1, oI w3ft_, oI 3] [(.int mwft_), (.ref b101), (.int mwft_), (.ref b101)])) rfl rfl (hb hby d1_121) _ ?_
        show own_S p e below T128 m 122 _ [(.int (own_at cc20 cc21 cc22 mwft_)), (.int mwft_), (.ref b101)] _
        refine XS.iconst X128.here hx rfl (hb hby d1_122) ?_
        show own_S p e below T128 m 123 _ [(.int 1), (.int (own_at cc20 cc21 cc22 mwft_)), (.int mwft_), (.ref b101)] _
        refine XS.isub X128.here hx rfl (hb hby d1_123) rfl ?_
        show own_S p e below T128 m 124 _ [(.int ((own_at cc20 cc21 cc22 mwft_) - (1 : Int32))), (.int mwft_), (.ref b101)] _
        refine st203 _ ?_
        show own_S p e below T203 m 125 _ [] _
        refine XS.aloadN X203.here hx rfl (hb hby d1_125) rfl rfl ?_
        show own_S p e below T203 m 126 _ [(.ref b101)] _
        refine XS.iload X203.here hx rfl (hb hby d1_126) rfl ?_
        show own_S p e below T203 m 128 _ [(.int 1), (.ref b101)] _
        jvm_step X203.here [X203.here.top, hx, (hb hby d1_128), Value.category]
        show own_S p e below T203 m 129 #[oR r0, oR r1, oI 3, oR b101, oI 0, oI 1, oI w3ft_, oI 3] [(.int 1), (.ref b101), (.int 1), (.ref b101)] _
        refine X203.iaload hx (j := (1 : Int32)) (v := (.int d1ft_)) (by rw [e203]; exact Ar206.1) (State.isArrayOf_alike hZ.alike Ar206.2.1) Ar206.2.2 hin207 hat207 (g := (mkF m 129 #[oR r0, oR r1, oI 3, oR b101, oI 0, oI 1, oI w3ft_, oI 3] [(.int 1), (.ref b101), (.int 1), (.ref b101)])) rfl rfl (hb hby d1_129) _ ?_
        show own_S p e below T203 m 130 _ [(.int d1ft_), (.int 1), (.ref b101)] _
        refine XS.iconst X203.here hx rfl (hb hby d1_130) ?_
        show own_S p e below T203 m 131 _ [(.int 1), (.int d1ft_), (.int 1), (.ref b101)] _
        refine XS.iadd X203.here hx rfl (hb hby d1_131) rfl ?_
        show own_S p e below T203 m 132 _ [(.int (d1ft_ + (1 : Int32))), (.int 1), (.ref b101)] _
        refine st209 _ ?_
        show own_S p e below T209 m 133 _ [] _
        refine XS.aloadN X209.here hx rfl (hb hby d1_133) rfl rfl ?_
        show own_S p e below T209 m 134 _ [(.ref r0)] _
        refine XS.iload X209.here hx rfl (hb hby d1_134) rfl ?_
        show own_S p e below T209 m 136 _ [(.int w3ft_), (.ref r0)] _
        refine XS.iload X209.here hx rfl (hb hby d1_136) rfl ?_
        show own_S p e below T209 m 138 #[oR r0, oR r1, oI 3, oR b101, oI 0, oI 1, oI w3ft_, oI 3] [(.int 1), (.int w3ft_), (.ref r0)] _
        refine st215 _ ?_
        show own_S p e below T215 m 139 _ [] _
        refine XS.iconst X215.here hx rfl (hb hby d1_139) ?_
        show own_S p e below T215 m 140 _ [(.int 1)] _
        refine XS.istore X215.here hx rfl (hb hby d1_140) rfl (l' := #[oR r0, oR r1, oI 3, oR b101, oI 1, oI 1, oI w3ft_, oI 3]) rfl ?_
        show own_S p e below T215 m 142 #[oR r0, oR r1, oI 3, oR b101, oI 1, oI 1, oI w3ft_, oI 3] [] _
        refine XS.iinc X215.here hx rfl (hb hby d1_142) rfl (l' := #[oR r0, oR r1, oI 3, oR b101, oI 1, oI 2, oI w3ft_, oI 3]) rfl ?_
        show own_S p e below T215 m 145 #[oR r0, oR r1, oI 3, oR b101, oI 1, oI 2, oI w3ft_, oI 3] [] _
        refine XS.goto X215.here hx rfl (pc0 := 145) (pc' := 49) rfl (hb hby d1_145) (by decide) (by decide) ?_
        show own_S p e below T215 m 49 _ [] _
        refine XS.iload X215.here hx rfl (hb hby d1_49) rfl ?_
        show own_S p e below T215 m 51 _ [(.int 2)] _
        refine XS.iloadN X215.here hx rfl (hb hby d1_51) rfl ?_
        show own_S p e below T215 m 52 _ [(.int 3), (.int 2)] _
        refine XS.icmpNo X215.here hx rfl (hb hby d1_52) rfl (tlt (by decide : (2 : Int32) < (3 : Int32))).2.1 ?_
        show own_S p e below T215 m 55 _ [] _
        refine XS.aloadN X215.here hx rfl (hb hby d1_55) rfl rfl ?_
        show own_S p e below T215 m 56 _ [(.ref b101)] _
        refine XS.iload X215.here hx rfl (hb hby d1_56) rfl ?_
        show own_S p e below T215 m 58 _ [(.int 2), (.ref b101)] _
        refine X215.iaload hx (j := (2 : Int32)) (v := (.int d2ft_)) (by rw [e215]; exact Ar219.1) (State.isArrayOf_alike hZ.alike Ar219.2.1) Ar219.2.2 hin220 hat220 (g := (mkF m 58 #[oR r0, oR r1, oI 3, oR b101, oI 1, oI 2, oI w3ft_, oI 3] [(.int 2), (.ref b101)])) rfl rfl (hb hby d1_58) _ ?_
        exact kt
      by_cases he2 : (0 : Int32) < d2ft_
      · skip
        have H3 : own_F3 x y z ma0 ma1 ma2 = (⟨d0ft_, (d1ft_ + (1 : Int32)), d2ft_, n0ft_, n1ft_, n2ft_, (1 : Int32)⟩ : own_St) := own_F3p H2 he2
        obtain ⟨fs, hr, hrun, hended, hW, hsame⟩ := X215.leave (v := some (.int 1)) (fun h => by rw [Bd.returns] at h; cases h)
        refine ⟨_, _, pre0 _ (pre221 _ ?_), hrun, hended, _, _, rfl, ?_, ⟨_, rfl⟩, hW, hsame.mono (by decide) (by decide)⟩
        · show own_S p e below T215 m 59 #[oR r0, oR r1, oI 3, oR b101, oI 1, oI 2, oI w3ft_, oI 3] [(.int d2ft_)] _
          refine XS.ifNo X215.here hx rfl (hb hby d1_59) rfl ((if0 _ _).trans (tlt (he2 : (0 : Int32) < d2ft_)).2.2.2) ?_
          show own_S p e below T215 m 62 _ [] _
          refine XS.goto X215.here hx rfl (pc0 := 62) (pc' := 142) rfl (hb hby d1_62) (by decide) (by decide) ?_
          show own_S p e below T215 m 142 _ [] _
          refine XS.iinc X215.here hx rfl (hb hby d1_142) rfl (l' := #[oR r0, oR r1, oI 3, oR b101, oI 1, oI 3, oI w3ft_, oI 3]) rfl ?_
          show own_S p e below T215 m 145 #[oR r0, oR r1, oI 3, oR b101, oI 1, oI 3, oI w3ft_, oI 3] [] _
          refine XS.goto X215.here hx rfl (pc0 := 145) (pc' := 49) rfl (hb hby d1_145) (by decide) (by decide) ?_
          show own_S p e below T215 m 49 _ [] _
          refine XS.iload X215.here hx rfl (hb hby d1_49) rfl ?_
          show own_S p e below T215 m 51 _ [(.int 3)] _
          refine XS.iloadN X215.here hx rfl (hb hby d1_51) rfl ?_
          show own_S p e below T215 m 52 _ [(.int 3), (.int 3)] _
          refine XS.icmpYes X215.here hx rfl (pc0 := 52) (pc' := 148) rfl (hb hby d1_52) rfl (flt (by decide : ¬ ((3 : Int32) < (3 : Int32)))).2.1 (by decide) (by decide) ?_
          show own_S p e below T215 m 148 _ [] _
          refine XS.iload X215.here hx rfl (hb hby d1_148) rfl ?_
          show own_S p e below T215 m 150 _ [(.int 1)] _
          exact retN X215 hx (t := .boolean) Bd.returns (by simp) (hb hby d1_150) hr
        · show Qf3 Z r0 r1 ka kb ma0 ma1 ma2 f0 f1 f2 x y z h0 n0 _ T215.heap _
          rw [e215]
          exact ⟨n0ft_, n1ft_, n2ft_, (1 : Int32), rfl, N215, KK217, Vs215, (by rw [H3]; exact ⟨rfl, rfl, rfl, rfl⟩)⟩
      · skip
        obtain ⟨w1ftt_, hw1ftt_⟩ : ∃ zz, zz = own_w1 (own_at d0ft_ (d1ft_ + (1 : Int32)) d2ft_ n0ft_) := ⟨_, rfl⟩
        obtain ⟨w2ftt_, hw2ftt_⟩ : ∃ zz, zz = own_w2 x (own_at d0ft_ (d1ft_ + (1 : Int32)) d2ft_ n1ft_) w1ftt_ := ⟨_, rfl⟩
        obtain ⟨w3ftt_, hw3ftt_⟩ : ∃ zz, zz = own_w3 y z (own_at d0ft_ (d1ft_ + (1 : Int32)) d2ft_ n2ft_) w2ftt_ := ⟨_, rfl⟩
        obtain ⟨mwftt_, hmwftt_⟩ : ∃ zz, zz = own_at n0ft_ n1ft_ n2ft_ w3ftt_ := ⟨_, rfl⟩
        obtain ⟨d0ftt_, hd0ftt_⟩ : ∃ zz, zz = own_p 0 mwftt_ ((own_at d0ft_ (d1ft_ + (1 : Int32)) d2ft_ mwftt_) - (1 : Int32)) d0ft_ := ⟨_, rfl⟩
        obtain ⟨d1ftt_, hd1ftt_⟩ : ∃ zz, zz = own_p 1 mwftt_ ((own_at d0ft_ (d1ft_ + (1 : Int32)) d2ft_ mwftt_) - (1 : Int32)) (d1ft_ + (1 : Int32)) := ⟨_, rfl⟩
        obtain ⟨d2ftt_, hd2ftt_⟩ : ∃ zz, zz = own_p 2 mwftt_ ((own_at d0ft_ (d1ft_ + (1 : Int32)) d2ft_ mwftt_) - (1 : Int32)) d2ft_ := ⟨_, rfl⟩
        obtain ⟨n0ftt_, hn0ftt_⟩ : ∃ zz, zz = own_p 0 w3ftt_ (2 : Int32) n0ft_ := ⟨_, rfl⟩
        obtain ⟨n1ftt_, hn1ftt_⟩ : ∃ zz, zz = own_p 1 w3ftt_ (2 : Int32) n1ft_ := ⟨_, rfl⟩
        obtain ⟨n2ftt_, hn2ftt_⟩ : ∃ zz, zz = own_p 2 w3ftt_ (2 : Int32) n2ft_ := ⟨_, rfl⟩
        have hWw3ftt_ : (w3ftt_ = 0 ∨ w3ftt_ = 1 ∨ w3ftt_ = 2) := by
          have q := own_L32 x y z ra0 ra1 ra2
          rw [H2, own_worstE hw1ftt_ hw2ftt_ hw3ftt_] at q
          exact q he2
        have hRmwftt_ : (mwftt_ = 0 ∨ mwftt_ = 1 ∨ mwftt_ = 2) := by rw [hmwftt_]; exact own_atr (P := fun i => (i = 0 ∨ i = 1 ∨ i = 2)) hRn0ft_ hRn1ft_ hRn2ft_
        have hRn0ftt_ : (n0ftt_ = 0 ∨ n0ftt_ = 1 ∨ n0ftt_ = 2) := by rw [hn0ftt_]; exact own_pr (P := fun i => (i = 0 ∨ i = 1 ∨ i = 2)) (by decide) hRn0ft_
        have hRn1ftt_ : (n1ftt_ = 0 ∨ n1ftt_ = 1 ∨ n1ftt_ = 2) := by rw [hn1ftt_]; exact own_pr (P := fun i => (i = 0 ∨ i = 1 ∨ i = 2)) (by decide) hRn1ft_
        have hRn2ftt_ : (n2ftt_ = 0 ∨ n2ftt_ = 1 ∨ n2ftt_ = 2) := by rw [hn2ftt_]; exact own_pr (P := fun i => (i = 0 ∨ i = 1 ∨ i = 2)) (by decide) hRn2ft_
        have H3 : own_F3 x y z ma0 ma1 ma2 = (⟨d0ftt_, d1ftt_, (d2ftt_ + (1 : Int32)), n0ftt_, n1ftt_, n2ftt_, (1 : Int32)⟩ : own_St) := own_F3u H2 he2 hw1ftt_ hw2ftt_ hw3ftt_ hmwftt_ hd0ftt_ hd1ftt_ hd2ftt_ hn0ftt_ hn1ftt_ hn2ftt_
        obtain ⟨cl222, Ar222, qk222, Sz222, Nz222, Hh222, Gg222⟩ := id Vs215
        have hin223 : ¬ ((0 : Int32) < 0 ∨ cl222.slots.size ≤ ((0 : Int32)).toNatClampNeg) := inb_of Sz222 ⟨by decide, by decide⟩
        have hat223 : cl222.slots[((0 : Int32)).toNatClampNeg]? = some (.int n0ft_) := Has.at Hh222 hin223 rfl
        have hin224 : ¬ (n0ft_ < 0 ∨ cl219.slots.size ≤ (n0ft_).toNatClampNeg) := inb_of Sz219 (own_b3 hRn0ft_)
        have hat224 : cl219.slots[(n0ft_).toNatClampNeg]? = some (.int (own_at d0ft_ (d1ft_ + (1 : Int32)) d2ft_ n0ft_)) := Has.at Hh219 hin224 (own_g3 hRn0ft_)
        have pre225 : ∀ t, Steps p.tables e below (T215.setTop (mkF m 85 #[oR r0, oR r1, oI 3, oR b101, oI 1, oI 2, oI (-1), oI 0] [(.int 1), (.int (own_at d0ft_ (d1ft_ + (1 : Int32)) d2ft_ n0ft_))])) t → Steps p.tables e below (s₁.setTop (mkF m 0 #[oR r0, oR r1, oI 3, oU, oU, oU, oU, oU] [])) t := by
          intro t kt
          refine pre221 _ ?_
          show own_S p e below T215 m 59 #[oR r0, oR r1, oI 3, oR b101, oI 1, oI 2, oI w3ft_, oI 3] [(.int d2ft_)] _
          refine XS.ifYes X215.here hx rfl (pc0 := 59) (pc' := 65) rfl (hb hby d1_59) rfl ((if0 _ _).trans (flt (he2 : ¬ ((0 : Int32) < d2ft_))).2.2.2) (by decide) (by decide) ?_
          show own_S p e below T215 m 65 _ [] _
          refine XS.iconst X215.here hx rfl (hb hby d1_65) ?_
          show own_S p e below T215 m 66 _ [(.int (-1))] _
          refine XS.istore X215.here hx rfl (hb hby d1_66) rfl (l' := #[oR r0, oR r1, oI 3, oR b101, oI 1, oI 2, oI (-1), oI 3]) rfl ?_
          show own_S p e below T215 m 68 #[oR r0, oR r1, oI 3, oR b101, oI 1, oI 2, oI (-1), oI 3] [] _
          refine XS.iconst X215.here hx rfl (hb hby d1_68) ?_
          show own_S p e below T215 m 69 _ [(.int 0)] _
          refine XS.istore X215.here hx rfl (hb hby d1_69) rfl (l' := #[oR r0, oR r1, oI 3, oR b101, oI 1, oI 2, oI (-1), oI 0]) rfl ?_
          show own_S p e below T215 m 71 #[oR r0, oR r1, oI 3, oR b101, oI 1, oI 2, oI (-1), oI 0] [] _
          refine XS.iload X215.here hx rfl (hb hby d1_71) rfl ?_
          show own_S p e below T215 m 73 _ [(.int 0)] _
          refine XS.aloadN X215.here hx rfl (hb hby d1_73) rfl rfl ?_
          show own_S p e below T215 m 74 _ [(.ref r0), (.int 0)] _
          refine X215.arraylength hx (by rw [e215]; exact Ar222.1) (State.isArrayOf_alike hZ.alike Ar222.2.1) (g := (mkF m 74 #[oR r0, oR r1, oI 3, oR b101, oI 1, oI 2, oI (-1), oI 0] [(.ref r0), (.int 0)])) rfl rfl (hb hby d1_74) _ ?_
          rw [len_of Sz222 Nz222]
          show own_S p e below T215 m 75 _ [(.int 3), (.int 0)] _
          refine XS.icmpNo X215.here hx rfl (hb hby d1_75) rfl (tlt (by decide : (0 : Int32) < (3 : Int32))).2.1 ?_
          show own_S p e below T215 m 78 _ [] _
          refine XS.aloadN X215.here hx rfl (hb hby d1_78) rfl rfl ?_
          show own_S p e below T215 m 79 _ [(.ref b101)] _
          refine XS.aloadN X215.here hx rfl (hb hby d1_79) rfl rfl ?_
          show own_S p e below T215 m 80 _ [(.ref r0), (.ref b101)] _
          refine XS.iload X215.here hx rfl (hb hby d1_80) rfl ?_
          show own_S p e below T215 m 82 #[oR r0, oR r1, oI 3, oR b101, oI 1, oI 2, oI (-1), oI 0] [(.int 0), (.ref r0), (.ref b101)] _
          refine X215.iaload hx (j := (0 : Int32)) (v := (.int n0ft_)) (by rw [e215]; exact Ar222.1) (State.isArrayOf_alike hZ.alike Ar222.2.1) Ar222.2.2 hin223 hat223 (g := (mkF m 82 #[oR r0, oR r1, oI 3, oR b101, oI 1, oI 2, oI (-1), oI 0] [(.int 0), (.ref r0), (.ref b101)])) rfl rfl (hb hby d1_82) _ ?_
          show own_S p e below T215 m 83 _ [(.int n0ft_), (.ref b101)] _
          refine X215.iaload hx (j := n0ft_) (v := (.int (own_at d0ft_ (d1ft_ + (1 : Int32)) d2ft_ n0ft_))) (by rw [e215]; exact Ar219.1) (State.isArrayOf_alike hZ.alike Ar219.2.1) Ar219.2.2 hin224 hat224 (g := (mkF m 83 #[oR r0, oR r1, oI 3, oR b101, oI 1, oI 2, oI (-1), oI 0] [(.int n0ft_), (.ref b101)])) rfl rfl (hb hby d1_83) _ ?_
          show own_S p e below T215 m 84 _ [(.int (own_at d0ft_ (d1ft_ + (1 : Int32)) d2ft_ n0ft_))] _
          refine XS.iconst X215.here hx rfl (hb hby d1_84) ?_
          exact kt
        have pre226 : ∀ t, Steps p.tables e below (T215.setTop (mkF m 109 #[oR r0, oR r1, oI 3, oR b101, oI 1, oI 2, oI w1ftt_, oI 0] [])) t → Steps p.tables e below (s₁.setTop (mkF m 0 #[oR r0, oR r1, oI 3, oU, oU, oU, oU, oU] [])) t := by
          intro t kt
          refine pre225 _ ?_
          show own_S p e below T215 m 85 #[oR r0, oR r1, oI 3, oR b101, oI 1, oI 2, oI (-1), oI 0] [(.int 1), (.int (own_at d0ft_ (d1ft_ + (1 : Int32)) d2ft_ n0ft_))] _
          by_cases hj : (1 : Int32) < (own_at d0ft_ (d1ft_ + (1 : Int32)) d2ft_ n0ft_)
          · skip
            refine XS.icmpNo X215.here hx rfl (hb hby d1_85) rfl (tlt (hj : (1 : Int32) < (own_at d0ft_ (d1ft_ + (1 : Int32)) d2ft_ n0ft_))).2.2.2 ?_
            show own_S p e below T215 m 88 #[oR r0, oR r1, oI 3, oR b101, oI 1, oI 2, oI (-1), oI 0] [] _
            refine XS.iload X215.here hx rfl (hb hby d1_88) rfl ?_
            show own_S p e below T215 m 90 _ [(.int (-1))] _
            refine XS.ifYes X215.here hx rfl (pc0 := 90) (pc' := 105) rfl (hb hby d1_90) rfl ((if0 _ _).trans (tlt (by decide : (-1 : Int32) < (0 : Int32))).1) (by decide) (by decide) ?_
            show own_S p e below T215 m 105 _ [] _
            refine XS.iload X215.here hx rfl (hb hby d1_105) rfl ?_
            show own_S p e below T215 m 107 _ [(.int 0)] _
            refine XS.istore X215.here hx rfl (hb hby d1_107) rfl (l' := #[oR r0, oR r1, oI 3, oR b101, oI 1, oI 2, oI 0, oI 0]) rfl ?_
            rw [(hw1ftt_.trans (if_pos hj) : w1ftt_ = (0 : Int32))] at kt
            exact kt
          · skip
            refine XS.icmpYes X215.here hx rfl (pc0 := 85) (pc' := 109) rfl (hb hby d1_85) rfl (flt (hj : ¬ ((1 : Int32) < (own_at d0ft_ (d1ft_ + (1 : Int32)) d2ft_ n0ft_)))).2.2.2 (by decide) (by decide) ?_
            rw [(hw1ftt_.trans (if_neg hj) : w1ftt_ = (-1 : Int32))] at kt
            exact kt
        have hin227 : ¬ ((1 : Int32) < 0 ∨ cl222.slots.size ≤ ((1 : Int32)).toNatClampNeg) := inb_of Sz222 ⟨by decide, by decide⟩
        have hat227 : cl222.slots[((1 : Int32)).toNatClampNeg]? = some (.int n1ft_) := Has.at Hh222 hin227 rfl
        have hin228 : ¬ (n1ft_ < 0 ∨ cl219.slots.size ≤ (n1ft_).toNatClampNeg) := inb_of Sz219 (own_b3 hRn1ft_)
        have hat228 : cl219.slots[(n1ft_).toNatClampNeg]? = some (.int (own_at d0ft_ (d1ft_ + (1 : Int32)) d2ft_ n1ft_)) := Has.at Hh219 hin228 (own_g3 hRn1ft_)
        have pre229 : ∀ t, Steps p.tables e below (T215.setTop (mkF m 85 #[oR r0, oR r1, oI 3, oR b101, oI 1, oI 2, oI w1ftt_, oI 1] [(.int 1), (.int (own_at d0ft_ (d1ft_ + (1 : Int32)) d2ft_ n1ft_))])) t → Steps p.tables e below (s₁.setTop (mkF m 0 #[oR r0, oR r1, oI 3, oU, oU, oU, oU, oU] [])) t := by
          intro t kt
          refine pre226 _ ?_
          show own_S p e below T215 m 109 #[oR r0, oR r1, oI 3, oR b101, oI 1, oI 2, oI w1ftt_, oI 0] [] _
          refine XS.iinc X215.here hx rfl (hb hby d1_109) rfl (l' := #[oR r0, oR r1, oI 3, oR b101, oI 1, oI 2, oI w1ftt_, oI 1]) rfl ?_
          show own_S p e below T215 m 112 #[oR r0, oR r1, oI 3, oR b101, oI 1, oI 2, oI w1ftt_, oI 1] [] _
          refine XS.goto X215.here hx rfl (pc0 := 112) (pc' := 71) rfl (hb hby d1_112) (by decide) (by decide) ?_
          show own_S p e below T215 m 71 _ [] _
          refine XS.iload X215.here hx rfl (hb hby d1_71) rfl ?_
          show own_S p e below T215 m 73 _ [(.int 1)] _
          refine XS.aloadN X215.here hx rfl (hb hby d1_73) rfl rfl ?_
          show own_S p e below T215 m 74 _ [(.ref r0), (.int 1)] _
          refine X215.arraylength hx (by rw [e215]; exact Ar222.1) (State.isArrayOf_alike hZ.alike Ar222.2.1) (g := (mkF m 74 #[oR r0, oR r1, oI 3, oR b101, oI 1, oI 2, oI w1ftt_, oI 1] [(.ref r0), (.int 1)])) rfl rfl (hb hby d1_74) _ ?_
          rw [len_of Sz222 Nz222]
          show own_S p e below T215 m 75 _ [(.int 3), (.int 1)] _
          refine XS.icmpNo X215.here hx rfl (hb hby d1_75) rfl (tlt (by decide : (1 : Int32) < (3 : Int32))).2.1 ?_
          show own_S p e below T215 m 78 _ [] _
          refine XS.aloadN X215.here hx rfl (hb hby d1_78) rfl rfl ?_
          show own_S p e below T215 m 79 _ [(.ref b101)] _
          refine XS.aloadN X215.here hx rfl (hb hby d1_79) rfl rfl ?_
          show own_S p e below T215 m 80 #[oR r0, oR r1, oI 3, oR b101, oI 1, oI 2, oI w1ftt_, oI 1] [(.ref r0), (.ref b101)] _
          refine XS.iload X215.here hx rfl (hb hby d1_80) rfl ?_
          show own_S p e below T215 m 82 _ [(.int 1), (.ref r0), (.ref b101)] _
          refine X215.iaload hx (j := (1 : Int32)) (v := (.int n1ft_)) (by rw [e215]; exact Ar222.1) (State.isArrayOf_alike hZ.alike Ar222.2.1) Ar222.2.2 hin227 hat227 (g := (mkF m 82 #[oR r0, oR r1, oI 3, oR b101, oI 1, oI 2, oI w1ftt_, oI 1] [(.int 1), (.ref r0), (.ref b101)])) rfl rfl (hb hby d1_82) _ ?_
          show own_S p e below T215 m 83 _ [(.int n1ft_), (.ref b101)] _
          refine X215.iaload hx (j := n1ft_) (v := (.int (own_at d0ft_ (d1ft_ + (1 : Int32)) d2ft_ n1ft_))) (by rw [e215]; exact Ar219.1) (State.isArrayOf_alike hZ.alike Ar219.2.1) Ar219.2.2 hin228 hat228 (g := (mkF m 83 #[oR r0, oR r1, oI 3, oR b101, oI 1, oI 2, oI w1ftt_, oI 1] [(.int n1ft_), (.ref b101)])) rfl rfl (hb hby d1_83) _ ?_
          show own_S p e below T215 m 84 _ [(.int (own_at d0ft_ (d1ft_ + (1 : Int32)) d2ft_ n1ft_))] _
          refine XS.iconst X215.here hx rfl (hb hby d1_84) ?_
          exact kt
        have pre234 : ∀ t, Steps p.tables e below (T215.setTop (mkF m 109 #[oR r0, oR r1, oI 3, oR b101, oI 1, oI 2, oI w2ftt_, oI 1] [])) t → Steps p.tables e below (s₁.setTop (mkF m 0 #[oR r0, oR r1, oI 3, oU, oU, oU, oU, oU] [])) t := by
          intro t kt
          refine pre229 _ ?_
          show own_S p e below T215 m 85 #[oR r0, oR r1, oI 3, oR b101, oI 1, oI 2, oI w1ftt_, oI 1] [(.int 1), (.int (own_at d0ft_ (d1ft_ + (1 : Int32)) d2ft_ n1ft_))] _
          by_cases hj : (1 : Int32) < (own_at d0ft_ (d1ft_ + (1 : Int32)) d2ft_ n1ft_)
          · skip
            refine XS.icmpNo X215.here hx rfl (hb hby d1_85) rfl (tlt (hj : (1 : Int32) < (own_at d0ft_ (d1ft_ + (1 : Int32)) d2ft_ n1ft_))).2.2.2 ?_
            show own_S p e below T215 m 88 #[oR r0, oR r1, oI 3, oR b101, oI 1, oI 2, oI w1ftt_, oI 1] [] _
            refine XS.iload X215.here hx rfl (hb hby d1_88) rfl ?_
            show own_S p e below T215 m 90 _ [(.int w1ftt_)] _
            by_cases hn : w1ftt_ < (0 : Int32)
            · skip
              refine XS.ifYes X215.here hx rfl (pc0 := 90) (pc' := 105) rfl (hb hby d1_90) rfl ((if0 _ _).trans (tlt (hn : w1ftt_ < (0 : Int32))).1) (by decide) (by decide) ?_
              show own_S p e below T215 m 105 #[oR r0, oR r1, oI 3, oR b101, oI 1, oI 2, oI w1ftt_, oI 1] [] _
              refine XS.iload X215.here hx rfl (hb hby d1_105) rfl ?_
              show own_S p e below T215 m 107 _ [(.int 1)] _
              refine XS.istore X215.here hx rfl (hb hby d1_107) rfl (l' := #[oR r0, oR r1, oI 3, oR b101, oI 1, oI 2, oI 1, oI 1]) rfl ?_
              rw [(hw2ftt_.trans (own_w2TT hj hn) : w2ftt_ = (1 : Int32))] at kt
              exact kt
            · skip
              have Fc230 := (((((((V_r1.ext E101).other W110 (Nat.ne_of_lt (Nat.lt_of_lt_of_le V_r1.lt (Nat.le_of_eq g101.symm)))).other W119 (Nat.ne_of_lt (Nat.lt_of_lt_of_le V_r1.lt (Nat.le_of_eq g101.symm)))).other W128 (Nat.ne_of_lt (Nat.lt_of_lt_of_le V_r1.lt (Nat.le_of_eq g101.symm)))).other W203 (Nat.ne_of_lt (Nat.lt_of_lt_of_le V_r1.lt (Nat.le_of_eq g101.symm)))).other W209 (Nat.ne_of_lt (Nat.lt_of_lt_of_le V_r1.lt (Nat.le_of_eq g101.symm)))).other W215 ne_r1_r0)
              obtain ⟨cl231, Ar231, qk231, Sz231, Nz231, Hh231, Gg231⟩ := id Fc230
              have hin232 : ¬ ((1 : Int32) < 0 ∨ cl231.slots.size ≤ ((1 : Int32)).toNatClampNeg) := inb_of Sz231 ⟨by decide, by decide⟩
              have hat232 : cl231.slots[((1 : Int32)).toNatClampNeg]? = some (.double f1) := Has.at Hh231 hin232 rfl
              have hin233 : ¬ (w1ftt_ < 0 ∨ cl231.slots.size ≤ (w1ftt_).toNatClampNeg) := inb_of Sz231 (own_b00 (own_w1z hw1ftt_ hn))
              have hat233 : cl231.slots[(w1ftt_).toNatClampNeg]? = some (.double f0) := Has.at Hh231 hin233 (own_gd0 (own_w1z hw1ftt_ hn))
              refine XS.ifNo X215.here hx rfl (hb hby d1_90) rfl ((if0 _ _).trans (flt (hn : ¬ (w1ftt_ < (0 : Int32)))).1) ?_
              show own_S p e below T215 m 93 #[oR r0, oR r1, oI 3, oR b101, oI 1, oI 2, oI w1ftt_, oI 1] [] _
              refine XS.aloadN X215.here hx rfl (hb hby d1_93) rfl rfl ?_
              show own_S p e below T215 m 94 _ [(.ref r1)] _
              refine XS.iload X215.here hx rfl (hb hby d1_94) rfl ?_
              show own_S p e below T215 m 96 _ [(.int 1), (.ref r1)] _
              refine X215.daload hx (j := (1 : Int32)) (v := (.double f1)) (by rw [e215]; exact Ar231.1) (State.isArrayOf_alike hZ.alike Ar231.2.1) Ar231.2.2 hin232 hat232 (g := (mkF m 96 #[oR r0, oR r1, oI 3, oR b101, oI 1, oI 2, oI w1ftt_, oI 1] [(.int 1), (.ref r1)])) rfl rfl (hb hby d1_96) _ ?_
              show own_S p e below T215 m 97 _ [(.double f1)] _
              refine XS.aloadN X215.here hx rfl (hb hby d1_97) rfl rfl ?_
              show own_S p e below T215 m 98 _ [(.ref r1), (.double f1)] _
              refine XS.iload X215.here hx rfl (hb hby d1_98) rfl ?_
              show own_S p e below T215 m 100 _ [(.int w1ftt_), (.ref r1), (.double f1)] _
              refine X215.daload hx (j := w1ftt_) (v := (.double f0)) (by rw [e215]; exact Ar231.1) (State.isArrayOf_alike hZ.alike Ar231.2.1) Ar231.2.2 hin233 hat233 (g := (mkF m 100 #[oR r0, oR r1, oI 3, oR b101, oI 1, oI 2, oI w1ftt_, oI 1] [(.int w1ftt_), (.ref r1), (.double f1)])) rfl rfl (hb hby d1_100) _ ?_
              show own_S p e below T215 m 101 _ [(.double f0), (.double f1)] _
              refine XS.dcmpS X215.here hx rfl (v := (cmpValue (FP.dcmp f1 f0) .g)) (hb hby d1_101) rfl rfl ?_
              show own_S p e below T215 m 102 #[oR r0, oR r1, oI 3, oR b101, oI 1, oI 2, oI w1ftt_, oI 1] [(.int (cmpValue (FP.dcmp f1 f0) .g))] _
              by_cases hd : (cmpValue (FP.dcmp f1 f0) .g) < (0 : Int32)
              · skip
                refine XS.ifNo X215.here hx rfl (hb hby d1_102) rfl ((if0 _ _).trans (tlt (hd : (cmpValue (FP.dcmp f1 f0) .g) < (0 : Int32))).2.1) ?_
                show own_S p e below T215 m 105 #[oR r0, oR r1, oI 3, oR b101, oI 1, oI 2, oI w1ftt_, oI 1] [] _
                refine XS.iload X215.here hx rfl (hb hby d1_105) rfl ?_
                show own_S p e below T215 m 107 _ [(.int 1)] _
                refine XS.istore X215.here hx rfl (hb hby d1_107) rfl (l' := #[oR r0, oR r1, oI 3, oR b101, oI 1, oI 2, oI 1, oI 1]) rfl ?_
                rw [(hw2ftt_.trans (own_w2TFT hj hn (cx.mp hd)) : w2ftt_ = (1 : Int32))] at kt
                exact kt
              · skip
                refine XS.ifYes X215.here hx rfl (pc0 := 102) (pc' := 109) rfl (hb hby d1_102) rfl ((if0 _ _).trans (flt (hd : ¬ ((cmpValue (FP.dcmp f1 f0) .g) < (0 : Int32)))).2.1) (by decide) (by decide) ?_
                rw [(hw2ftt_.trans (own_w2TFF hj hn (fun q => hd (cx.mpr q))) : w2ftt_ = w1ftt_)] at kt
                exact kt
          · skip
            refine XS.icmpYes X215.here hx rfl (pc0 := 85) (pc' := 109) rfl (hb hby d1_85) rfl (flt (hj : ¬ ((1 : Int32) < (own_at d0ft_ (d1ft_ + (1 : Int32)) d2ft_ n1ft_)))).2.2.2 (by decide) (by decide) ?_
            rw [(hw2ftt_.trans (own_w2F hj) : w2ftt_ = w1ftt_)] at kt
            exact kt
        have hin235 : ¬ ((2 : Int32) < 0 ∨ cl222.slots.size ≤ ((2 : Int32)).toNatClampNeg) := inb_of Sz222 ⟨by decide, by decide⟩
        have hat235 : cl222.slots[((2 : Int32)).toNatClampNeg]? = some (.int n2ft_) := Has.at Hh222 hin235 rfl
        have hin236 : ¬ (n2ft_ < 0 ∨ cl219.slots.size ≤ (n2ft_).toNatClampNeg) := inb_of Sz219 (own_b3 hRn2ft_)
        have hat236 : cl219.slots[(n2ft_).toNatClampNeg]? = some (.int (own_at d0ft_ (d1ft_ + (1 : Int32)) d2ft_ n2ft_)) := Has.at Hh219 hin236 (own_g3 hRn2ft_)
        have pre237 : ∀ t, Steps p.tables e below (T215.setTop (mkF m 85 #[oR r0, oR r1, oI 3, oR b101, oI 1, oI 2, oI w2ftt_, oI 2] [(.int 1), (.int (own_at d0ft_ (d1ft_ + (1 : Int32)) d2ft_ n2ft_))])) t → Steps p.tables e below (s₁.setTop (mkF m 0 #[oR r0, oR r1, oI 3, oU, oU, oU, oU, oU] [])) t := by
          intro t kt
          refine pre234 _ ?_
          show own_S p e below T215 m 109 #[oR r0, oR r1, oI 3, oR b101, oI 1, oI 2, oI w2ftt_, oI 1] [] _
          refine XS.iinc X215.here hx rfl (hb hby d1_109) rfl (l' := #[oR r0, oR r1, oI 3, oR b101, oI 1, oI 2, oI w2ftt_, oI 2]) rfl ?_
          show own_S p e below T215 m 112 #[oR r0, oR r1, oI 3, oR b101, oI 1, oI 2, oI w2ftt_, oI 2] [] _
          refine XS.goto X215.here hx rfl (pc0 := 112) (pc' := 71) rfl (hb hby d1_112) (by decide) (by decide) ?_
          show own_S p e below T215 m 71 _ [] _
          refine XS.iload X215.here hx rfl (hb hby d1_71) rfl ?_
          show own_S p e below T215 m 73 _ [(.int 2)] _
          refine XS.aloadN X215.here hx rfl (hb hby d1_73) rfl rfl ?_
          show own_S p e below T215 m 74 _ [(.ref r0), (.int 2)] _
          refine X215.arraylength hx (by rw [e215]; exact Ar222.1) (State.isArrayOf_alike hZ.alike Ar222.2.1) (g := (mkF m 74 #[oR r0, oR r1, oI 3, oR b101, oI 1, oI 2, oI w2ftt_, oI 2] [(.ref r0), (.int 2)])) rfl rfl (hb hby d1_74) _ ?_
          rw [len_of Sz222 Nz222]
          show own_S p e below T215 m 75 _ [(.int 3), (.int 2)] _
          refine XS.icmpNo X215.here hx rfl (hb hby d1_75) rfl (tlt (by decide : (2 : Int32) < (3 : Int32))).2.1 ?_
          show own_S p e below T215 m 78 _ [] _
          refine XS.aloadN X215.here hx rfl (hb hby d1_78) rfl rfl ?_
          show own_S p e below T215 m 79 _ [(.ref b101)] _
          refine XS.aloadN X215.here hx rfl (hb hby d1_79) rfl rfl ?_
          show own_S p e below T215 m 80 #[oR r0, oR r1, oI 3, oR b101, oI 1, oI 2, oI w2ftt_, oI 2] [(.ref r0), (.ref b101)] _
          refine XS.iload X215.here hx rfl (hb hby d1_80) rfl ?_
          show own_S p e below T215 m 82 _ [(.int 2), (.ref r0), (.ref b101)] _
          refine X215.iaload hx (j := (2 : Int32)) (v := (.int n2ft_)) (by rw [e215]; exact Ar222.1) (State.isArrayOf_alike hZ.alike Ar222.2.1) Ar222.2.2 hin235 hat235 (g := (mkF m 82 #[oR r0, oR r1, oI 3, oR b101, oI 1, oI 2, oI w2ftt_, oI 2] [(.int 2), (.ref r0), (.ref b101)])) rfl rfl (hb hby d1_82) _ ?_
          show own_S p e below T215 m 83 _ [(.int n2ft_), (.ref b101)] _
          refine X215.iaload hx (j := n2ft_) (v := (.int (own_at d0ft_ (d1ft_ + (1 : Int32)) d2ft_ n2ft_))) (by rw [e215]; exact Ar219.1) (State.isArrayOf_alike hZ.alike Ar219.2.1) Ar219.2.2 hin236 hat236 (g := (mkF m 83 #[oR r0, oR r1, oI 3, oR b101, oI 1, oI 2, oI w2ftt_, oI 2] [(.int n2ft_), (.ref b101)])) rfl rfl (hb hby d1_83) _ ?_
          show own_S p e below T215 m 84 _ [(.int (own_at d0ft_ (d1ft_ + (1 : Int32)) d2ft_ n2ft_))] _
          refine XS.iconst X215.here hx rfl (hb hby d1_84) ?_
          exact kt
        have pre242 : ∀ t, Steps p.tables e below (T215.setTop (mkF m 109 #[oR r0, oR r1, oI 3, oR b101, oI 1, oI 2, oI w3ftt_, oI 2] [])) t → Steps p.tables e below (s₁.setTop (mkF m 0 #[oR r0, oR r1, oI 3, oU, oU, oU, oU, oU] [])) t := by
          intro t kt
          refine pre237 _ ?_
          show own_S p e below T215 m 85 #[oR r0, oR r1, oI 3, oR b101, oI 1, oI 2, oI w2ftt_, oI 2] [(.int 1), (.int (own_at d0ft_ (d1ft_ + (1 : Int32)) d2ft_ n2ft_))] _
          by_cases hj : (1 : Int32) < (own_at d0ft_ (d1ft_ + (1 : Int32)) d2ft_ n2ft_)
          · skip
            refine XS.icmpNo X215.here hx rfl (hb hby d1_85) rfl (tlt (hj : (1 : Int32) < (own_at d0ft_ (d1ft_ + (1 : Int32)) d2ft_ n2ft_))).2.2.2 ?_
            show own_S p e below T215 m 88 #[oR r0, oR r1, oI 3, oR b101, oI 1, oI 2, oI w2ftt_, oI 2] [] _
            refine XS.iload X215.here hx rfl (hb hby d1_88) rfl ?_
            show own_S p e below T215 m 90 _ [(.int w2ftt_)] _
            by_cases hn : w2ftt_ < (0 : Int32)
            · skip
              refine XS.ifYes X215.here hx rfl (pc0 := 90) (pc' := 105) rfl (hb hby d1_90) rfl ((if0 _ _).trans (tlt (hn : w2ftt_ < (0 : Int32))).1) (by decide) (by decide) ?_
              show own_S p e below T215 m 105 #[oR r0, oR r1, oI 3, oR b101, oI 1, oI 2, oI w2ftt_, oI 2] [] _
              refine XS.iload X215.here hx rfl (hb hby d1_105) rfl ?_
              show own_S p e below T215 m 107 _ [(.int 2)] _
              refine XS.istore X215.here hx rfl (hb hby d1_107) rfl (l' := #[oR r0, oR r1, oI 3, oR b101, oI 1, oI 2, oI 2, oI 2]) rfl ?_
              rw [(hw3ftt_.trans (own_w3TT hj hn) : w3ftt_ = (2 : Int32))] at kt
              exact kt
            · skip
              have Fc238 := (((((((V_r1.ext E101).other W110 (Nat.ne_of_lt (Nat.lt_of_lt_of_le V_r1.lt (Nat.le_of_eq g101.symm)))).other W119 (Nat.ne_of_lt (Nat.lt_of_lt_of_le V_r1.lt (Nat.le_of_eq g101.symm)))).other W128 (Nat.ne_of_lt (Nat.lt_of_lt_of_le V_r1.lt (Nat.le_of_eq g101.symm)))).other W203 (Nat.ne_of_lt (Nat.lt_of_lt_of_le V_r1.lt (Nat.le_of_eq g101.symm)))).other W209 (Nat.ne_of_lt (Nat.lt_of_lt_of_le V_r1.lt (Nat.le_of_eq g101.symm)))).other W215 ne_r1_r0)
              obtain ⟨cl239, Ar239, qk239, Sz239, Nz239, Hh239, Gg239⟩ := id Fc238
              have hin240 : ¬ ((2 : Int32) < 0 ∨ cl239.slots.size ≤ ((2 : Int32)).toNatClampNeg) := inb_of Sz239 ⟨by decide, by decide⟩
              have hat240 : cl239.slots[((2 : Int32)).toNatClampNeg]? = some (.double f2) := Has.at Hh239 hin240 rfl
              have hin241 : ¬ (w2ftt_ < 0 ∨ cl239.slots.size ≤ (w2ftt_).toNatClampNeg) := inb_of Sz239 (own_b01 (own_w2z hw1ftt_ hw2ftt_ hn))
              have hat241 : cl239.slots[(w2ftt_).toNatClampNeg]? = some (.double (own_atD f0 f1 w2ftt_)) := Has.at Hh239 hin241 (own_gd (own_w2z hw1ftt_ hw2ftt_ hn))
              refine XS.ifNo X215.here hx rfl (hb hby d1_90) rfl ((if0 _ _).trans (flt (hn : ¬ (w2ftt_ < (0 : Int32)))).1) ?_
              show own_S p e below T215 m 93 #[oR r0, oR r1, oI 3, oR b101, oI 1, oI 2, oI w2ftt_, oI 2] [] _
              refine XS.aloadN X215.here hx rfl (hb hby d1_93) rfl rfl ?_
              show own_S p e below T215 m 94 _ [(.ref r1)] _
              refine XS.iload X215.here hx rfl (hb hby d1_94) rfl ?_
              show own_S p e below T215 m 96 _ [(.int 2), (.ref r1)] _
              refine X215.daload hx (j := (2 : Int32)) (v := (.double f2)) (by rw [e215]; exact Ar239.1) (State.isArrayOf_alike hZ.alike Ar239.2.1) Ar239.2.2 hin240 hat240 (g := (mkF m 96 #[oR r0, oR r1, oI 3, oR b101, oI 1, oI 2, oI w2ftt_, oI 2] [(.int 2), (.ref r1)])) rfl rfl (hb hby d1_96) _ ?_
              show own_S p e below T215 m 97 _ [(.double f2)] _
              refine XS.aloadN X215.here hx rfl (hb hby d1_97) rfl rfl ?_
              show own_S p e below T215 m 98 _ [(.ref r1), (.double f2)] _
              refine XS.iload X215.here hx rfl (hb hby d1_98) rfl ?_
              show own_S p e below T215 m 100 _ [(.int w2ftt_), (.ref r1), (.double f2)] _
              refine X215.daload hx (j := w2ftt_) (v := (.double (own_atD f0 f1 w2ftt_))) (by rw [e215]; exact Ar239.1) (State.isArrayOf_alike hZ.alike Ar239.2.1) Ar239.2.2 hin241 hat241 (g := (mkF m 100 #[oR r0, oR r1, oI 3, oR b101, oI 1, oI 2, oI w2ftt_, oI 2] [(.int w2ftt_), (.ref r1), (.double f2)])) rfl rfl (hb hby d1_100) _ ?_
              show own_S p e below T215 m 101 _ [(.double (own_atD f0 f1 w2ftt_)), (.double f2)] _
              refine XS.dcmpS X215.here hx rfl (v := (cmpValue (FP.dcmp f2 (own_atD f0 f1 w2ftt_)) .g)) (hb hby d1_101) rfl rfl ?_
              show own_S p e below T215 m 102 #[oR r0, oR r1, oI 3, oR b101, oI 1, oI 2, oI w2ftt_, oI 2] [(.int (cmpValue (FP.dcmp f2 (own_atD f0 f1 w2ftt_)) .g))] _
              by_cases hd : (cmpValue (FP.dcmp f2 (own_atD f0 f1 w2ftt_)) .g) < (0 : Int32)
              · skip
                refine XS.ifNo X215.here hx rfl (hb hby d1_102) rfl ((if0 _ _).trans (tlt (hd : (cmpValue (FP.dcmp f2 (own_atD f0 f1 w2ftt_)) .g) < (0 : Int32))).2.1) ?_
                show own_S p e below T215 m 105 #[oR r0, oR r1, oI 3, oR b101, oI 1, oI 2, oI w2ftt_, oI 2] [] _
                refine XS.iload X215.here hx rfl (hb hby d1_105) rfl ?_
                show own_S p e below T215 m 107 _ [(.int 2)] _
                refine XS.istore X215.here hx rfl (hb hby d1_107) rfl (l' := #[oR r0, oR r1, oI 3, oR b101, oI 1, oI 2, oI 2, oI 2]) rfl ?_
                rw [(hw3ftt_.trans (own_w3TFT hj hn ((own_cyz (own_w2z hw1ftt_ hw2ftt_ hn) cy cz).mp hd)) : w3ftt_ = (2 : Int32))] at kt
                exact kt
              · skip
                refine XS.ifYes X215.here hx rfl (pc0 := 102) (pc' := 109) rfl (hb hby d1_102) rfl ((if0 _ _).trans (flt (hd : ¬ ((cmpValue (FP.dcmp f2 (own_atD f0 f1 w2ftt_)) .g) < (0 : Int32)))).2.1) (by decide) (by decide) ?_
                rw [(hw3ftt_.trans (own_w3TFF hj hn (fun q => hd ((own_cyz (own_w2z hw1ftt_ hw2ftt_ hn) cy cz).mpr q))) : w3ftt_ = w2ftt_)] at kt
                exact kt
          · skip
            refine XS.icmpYes X215.here hx rfl (pc0 := 85) (pc' := 109) rfl (hb hby d1_85) rfl (flt (hj : ¬ ((1 : Int32) < (own_at d0ft_ (d1ft_ + (1 : Int32)) d2ft_ n2ft_)))).2.2.2 (by decide) (by decide) ?_
            rw [(hw3ftt_.trans (own_w3F hj) : w3ftt_ = w2ftt_)] at kt
            exact kt
        have hin243 : ¬ (w3ftt_ < 0 ∨ cl222.slots.size ≤ (w3ftt_).toNatClampNeg) := inb_of Sz222 (own_b3 hWw3ftt_)
        have hat243 : cl222.slots[(w3ftt_).toNatClampNeg]? = some (.int mwftt_) := Has.at Hh222 hin243 (by rw [hmwftt_]; exact own_g3 hWw3ftt_)
        have hin244 : ¬ (mwftt_ < 0 ∨ cl219.slots.size ≤ (mwftt_).toNatClampNeg) := inb_of Sz219 (own_b3 hRmwftt_)
        have hat244 : cl219.slots[(mwftt_).toNatClampNeg]? = some (.int (own_at d0ft_ (d1ft_ + (1 : Int32)) d2ft_ mwftt_)) := Has.at Hh219 hin244 (own_g3 hRmwftt_)
        have hin245 : ¬ (mwftt_ < 0 ∨ cl219.slots.size ≤ (mwftt_).toNatClampNeg) := inb_of Sz219 (own_b3 hRmwftt_)
        obtain ⟨T246, h246, X246, e246, W246, st246⟩ := stI X215 hx hZ e215 Ar219 (j := mwftt_) hin245 (g := (mkF m 124 #[oR r0, oR r1, oI 3, oR b101, oI 1, oI 2, oI w3ftt_, oI 3] [(.int ((own_at d0ft_ (d1ft_ + (1 : Int32)) d2ft_ mwftt_) - (1 : Int32))), (.int mwftt_), (.ref b101)])) rfl rfl (hb hby d1_124)
        have Va246 := Arv.set Ar219 qk219 Sz219 Nz219 Hh219 Gg219 rfl W246 (mwftt_).toNatClampNeg rfl (own_l3 hRmwftt_)
        have Vs246 : Arv Z h246 b101 k101 .int (3 : Int32) [(.int d0ftt_), (.int d1ftt_), (.int d2ftt_)] (.int 0) := by rw [← (by rw [hd0ftt_, hd1ftt_, hd2ftt_]; exact own_s3 hRmwftt_ : ([(.int d0ft_), (.int (d1ft_ + (1 : Int32))), (.int d2ft_)] : List Value).set (mwftt_).toNatClampNeg (.int ((own_at d0ft_ (d1ft_ + (1 : Int32)) d2ft_ mwftt_) - (1 : Int32))) = [(.int d0ftt_), (.int d1ftt_), (.int d2ftt_)])]; exact Va246
        have N246 := Fr.snoc X246 N215 g_b101
        have ZZ247 : n0 ≤ h246.size := Nat.le_trans ZZ216 (Nat.le_of_eq W246.size.symm)
        have KK248 : Keep h0 h246 [r0] := KK217.wr W246 (Or.inr sz_b101)
        obtain ⟨cl249, Ar249, qk249, Sz249, Nz249, Hh249, Gg249⟩ := id Vs246
        have hin250 : ¬ ((2 : Int32) < 0 ∨ cl249.slots.size ≤ ((2 : Int32)).toNatClampNeg) := inb_of Sz249 ⟨by decide, by decide⟩
        have hat250 : cl249.slots[((2 : Int32)).toNatClampNeg]? = some (.int d2ftt_) := Has.at Hh249 hin250 rfl
        have hin251 : ¬ ((2 : Int32) < 0 ∨ cl249.slots.size ≤ ((2 : Int32)).toNatClampNeg) := inb_of Sz249 ⟨by decide, by decide⟩
        obtain ⟨T252, h252, X252, e252, W252, st252⟩ := stI X246 hx hZ e246 Ar249 (j := (2 : Int32)) hin251 (g := (mkF m 132 #[oR r0, oR r1, oI 3, oR b101, oI 1, oI 2, oI w3ftt_, oI 3] [(.int (d2ftt_ + (1 : Int32))), (.int 2), (.ref b101)])) rfl rfl (hb hby d1_132)
        have Va252 := Arv.set Ar249 qk249 Sz249 Nz249 Hh249 Gg249 rfl W252 2 rfl (Nat.le_of_ble_eq_true rfl)
        have N252 := Fr.snoc X252 N246 g_b101
        have ZZ253 : n0 ≤ h252.size := Nat.le_trans ZZ247 (Nat.le_of_eq W252.size.symm)
        have KK254 : Keep h0 h252 [r0] := KK248.wr W252 (Or.inr sz_b101)
        have Fc255 := ((Vs215.other W246 (Nat.ne_of_lt (Nat.lt_of_lt_of_le V_r0.lt (Nat.le_of_eq g101.symm)))).other W252 (Nat.ne_of_lt (Nat.lt_of_lt_of_le V_r0.lt (Nat.le_of_eq g101.symm))))
        obtain ⟨cl256, Ar256, qk256, Sz256, Nz256, Hh256, Gg256⟩ := id Fc255
        have hin257 : ¬ (w3ftt_ < 0 ∨ cl256.slots.size ≤ (w3ftt_).toNatClampNeg) := inb_of Sz256 (own_b3 hWw3ftt_)
        obtain ⟨T258, h258, X258, e258, W258, st258⟩ := stI X252 hx hZ e252 Ar256 (j := w3ftt_) hin257 (g := (mkF m 138 #[oR r0, oR r1, oI 3, oR b101, oI 1, oI 2, oI w3ftt_, oI 3] [(.int 2), (.int w3ftt_), (.ref r0)])) rfl rfl (hb hby d1_138)
        have Va258 := Arv.set Ar256 qk256 Sz256 Nz256 Hh256 Gg256 rfl W258 (w3ftt_).toNatClampNeg rfl (own_l3 hWw3ftt_)
        have Vs258 : Arv Z h258 r0 ka .int (3 : Int32) [(.int n0ftt_), (.int n1ftt_), (.int n2ftt_)] (.int 0) := by rw [← (by rw [hn0ftt_, hn1ftt_, hn2ftt_]; exact own_s3 hWw3ftt_ : ([(.int n0ft_), (.int n1ft_), (.int n2ft_)] : List Value).set (w3ftt_).toNatClampNeg (.int 2) = [(.int n0ftt_), (.int n1ftt_), (.int n2ftt_)])]; exact Va258
        have N258 := Fr.snoc X258 N252 g_r0
        have ZZ259 : n0 ≤ h258.size := Nat.le_trans ZZ253 (Nat.le_of_eq W258.size.symm)
        have KK260 : Keep h0 h258 [r0] := KK254.wr W258 (Or.inl (List.mem_of_getElem? (i := 0) rfl))
        obtain ⟨fs, hr, hrun, hended, hW, hsame⟩ := X258.leave (v := some (.int 1)) (fun h => by rw [Bd.returns] at h; cases h)
        refine ⟨_, _, pre0 _ (pre242 _ ?_), hrun, hended, _, _, rfl, ?_, ⟨_, rfl⟩, hW, hsame.mono (by decide) (by decide)⟩
        · show own_S p e below T215 m 109 #[oR r0, oR r1, oI 3, oR b101, oI 1, oI 2, oI w3ftt_, oI 2] [] _
          refine XS.iinc X215.here hx rfl (hb hby d1_109) rfl (l' := #[oR r0, oR r1, oI 3, oR b101, oI 1, oI 2, oI w3ftt_, oI 3]) rfl ?_
          show own_S p e below T215 m 112 #[oR r0, oR r1, oI 3, oR b101, oI 1, oI 2, oI w3ftt_, oI 3] [] _
          refine XS.goto X215.here hx rfl (pc0 := 112) (pc' := 71) rfl (hb hby d1_112) (by decide) (by decide) ?_
          show own_S p e below T215 m 71 _ [] _
          refine XS.iload X215.here hx rfl (hb hby d1_71) rfl ?_
          show own_S p e below T215 m 73 _ [(.int 3)] _
          refine XS.aloadN X215.here hx rfl (hb hby d1_73) rfl rfl ?_
          show own_S p e below T215 m 74 _ [(.ref r0), (.int 3)] _
          refine X215.arraylength hx (by rw [e215]; exact Ar222.1) (State.isArrayOf_alike hZ.alike Ar222.2.1) (g := (mkF m 74 #[oR r0, oR r1, oI 3, oR b101, oI 1, oI 2, oI w3ftt_, oI 3] [(.ref r0), (.int 3)])) rfl rfl (hb hby d1_74) _ ?_
          rw [len_of Sz222 Nz222]
          show own_S p e below T215 m 75 _ [(.int 3), (.int 3)] _
          refine XS.icmpYes X215.here hx rfl (pc0 := 75) (pc' := 115) rfl (hb hby d1_75) rfl (flt (by decide : ¬ ((3 : Int32) < (3 : Int32)))).2.1 (by decide) (by decide) ?_
          show own_S p e below T215 m 115 _ [] _
          refine XS.aloadN X215.here hx rfl (hb hby d1_115) rfl rfl ?_
          show own_S p e below T215 m 116 _ [(.ref b101)] _
          refine XS.aloadN X215.here hx rfl (hb hby d1_116) rfl rfl ?_
          show own_S p e below T215 m 117 #[oR r0, oR r1, oI 3, oR b101, oI 1, oI 2, oI w3ftt_, oI 3] [(.ref r0), (.ref b101)] _
          refine XS.iload X215.here hx rfl (hb hby d1_117) rfl ?_
          show own_S p e below T215 m 119 _ [(.int w3ftt_), (.ref r0), (.ref b101)] _
          refine X215.iaload hx (j := w3ftt_) (v := (.int mwftt_)) (by rw [e215]; exact Ar222.1) (State.isArrayOf_alike hZ.alike Ar222.2.1) Ar222.2.2 hin243 hat243 (g := (mkF m 119 #[oR r0, oR r1, oI 3, oR b101, oI 1, oI 2, oI w3ftt_, oI 3] [(.int w3ftt_), (.ref r0), (.ref b101)])) rfl rfl (hb hby d1_119) _ ?_
          show own_S p e below T215 m 120 _ [(.int mwftt_), (.ref b101)] _
          jvm_step X215.here [X215.here.top, hx, (hb hby d1_120), Value.category]
          show own_S p e below T215 m 121 #[oR r0, oR r1, oI 3, oR b101, oI 1, oI 2, oI w3ftt_, oI 3] [(.int mwftt_), (.ref b101), (.int mwftt_), (.ref b101)] _
          refine X215.iaload hx (j := mwftt_) (v := (.int (own_at d0ft_ (d1ft_ + (1 : Int32)) d2ft_ mwftt_))) (by rw [e215]; exact Ar219.1) (State.isArrayOf_alike hZ.alike Ar219.2.1) Ar219.2.2 hin244 hat244 (g := (mkF m 121 #[oR r0, oR r1, oI 3, oR b101, oI 1, oI 2, oI w3ftt_, oI 3] [(.int mwftt_), (.ref b101), (.int mwftt_), (.ref b101)])) rfl rfl (hb hby d1_121) _ ?_
          show own_S p e below T215 m 122 _ [(.int (own_at d0ft_ (d1ft_ + (1 : Int32)) d2ft_ mwftt_)), (.int mwftt_), (.ref b101)] _
          refine XS.iconst X215.here hx rfl (hb hby d1_122) ?_
          show own_S p e below T215 m 123 _ [(.int 1), (.int (own_at d0ft_ (d1ft_ + (1 : Int32)) d2ft_ mwftt_)), (.int mwftt_), (.ref b101)] _
          refine XS.isub X215.here hx rfl (hb hby d1_123) rfl ?_
          show own_S p e below T215 m 124 _ [(.int ((own_at d0ft_ (d1ft_ + (1 : Int32)) d2ft_ mwftt_) - (1 : Int32))), (.int mwftt_), (.ref b101)] _
          refine st246 _ ?_
          show own_S p e below T246 m 125 _ [] _
          refine XS.aloadN X246.here hx rfl (hb hby d1_125) rfl rfl ?_
          show own_S p e below T246 m 126 _ [(.ref b101)] _
          refine XS.iload X246.here hx rfl (hb hby d1_126) rfl ?_
          show own_S p e below T246 m 128 _ [(.int 2), (.ref b101)] _
          jvm_step X246.here [X246.here.top, hx, (hb hby d1_128), Value.category]
          show own_S p e below T246 m 129 #[oR r0, oR r1, oI 3, oR b101, oI 1, oI 2, oI w3ftt_, oI 3] [(.int 2), (.ref b101), (.int 2), (.ref b101)] _
          refine X246.iaload hx (j := (2 : Int32)) (v := (.int d2ftt_)) (by rw [e246]; exact Ar249.1) (State.isArrayOf_alike hZ.alike Ar249.2.1) Ar249.2.2 hin250 hat250 (g := (mkF m 129 #[oR r0, oR r1, oI 3, oR b101, oI 1, oI 2, oI w3ftt_, oI 3] [(.int 2), (.ref b101), (.int 2), (.ref b101)])) rfl rfl (hb hby d1_129) _ ?_
          show own_S p e below T246 m 130 _ [(.int d2ftt_), (.int 2), (.ref b101)] _
          refine XS.iconst X246.here hx rfl (hb hby d1_130) ?_
          show own_S p e below T246 m 131 _ [(.int 1), (.int d2ftt_), (.int 2), (.ref b101)] _
          refine XS.iadd X246.here hx rfl (hb hby d1_131) rfl ?_
          show own_S p e below T246 m 132 _ [(.int (d2ftt_ + (1 : Int32))), (.int 2), (.ref b101)] _
          refine st252 _ ?_
          show own_S p e below T252 m 133 _ [] _
          refine XS.aloadN X252.here hx rfl (hb hby d1_133) rfl rfl ?_
          show own_S p e below T252 m 134 _ [(.ref r0)] _
          refine XS.iload X252.here hx rfl (hb hby d1_134) rfl ?_
          show own_S p e below T252 m 136 _ [(.int w3ftt_), (.ref r0)] _
          refine XS.iload X252.here hx rfl (hb hby d1_136) rfl ?_
          show own_S p e below T252 m 138 #[oR r0, oR r1, oI 3, oR b101, oI 1, oI 2, oI w3ftt_, oI 3] [(.int 2), (.int w3ftt_), (.ref r0)] _
          refine st258 _ ?_
          show own_S p e below T258 m 139 _ [] _
          refine XS.iconst X258.here hx rfl (hb hby d1_139) ?_
          show own_S p e below T258 m 140 _ [(.int 1)] _
          refine XS.istore X258.here hx rfl (hb hby d1_140) rfl (l' := #[oR r0, oR r1, oI 3, oR b101, oI 1, oI 2, oI w3ftt_, oI 3]) rfl ?_
          show own_S p e below T258 m 142 _ [] _
          refine XS.iinc X258.here hx rfl (hb hby d1_142) rfl (l' := #[oR r0, oR r1, oI 3, oR b101, oI 1, oI 3, oI w3ftt_, oI 3]) rfl ?_
          show own_S p e below T258 m 145 #[oR r0, oR r1, oI 3, oR b101, oI 1, oI 3, oI w3ftt_, oI 3] [] _
          refine XS.goto X258.here hx rfl (pc0 := 145) (pc' := 49) rfl (hb hby d1_145) (by decide) (by decide) ?_
          show own_S p e below T258 m 49 _ [] _
          refine XS.iload X258.here hx rfl (hb hby d1_49) rfl ?_
          show own_S p e below T258 m 51 _ [(.int 3)] _
          refine XS.iloadN X258.here hx rfl (hb hby d1_51) rfl ?_
          show own_S p e below T258 m 52 _ [(.int 3), (.int 3)] _
          refine XS.icmpYes X258.here hx rfl (pc0 := 52) (pc' := 148) rfl (hb hby d1_52) rfl (flt (by decide : ¬ ((3 : Int32) < (3 : Int32)))).2.1 (by decide) (by decide) ?_
          show own_S p e below T258 m 148 _ [] _
          refine XS.iload X258.here hx rfl (hb hby d1_148) rfl ?_
          show own_S p e below T258 m 150 _ [(.int 1)] _
          exact retN X258 hx (t := .boolean) Bd.returns (by simp) (hb hby d1_150) hr
        · show Qf3 Z r0 r1 ka kb ma0 ma1 ma2 f0 f1 f2 x y z h0 n0 _ T258.heap _
          rw [e258]
          exact ⟨n0ftt_, n1ftt_, n2ftt_, (1 : Int32), rfl, N258, KK260, Vs258, (by rw [H3]; exact ⟨rfl, rfl, rfl, rfl⟩)⟩
  · skip
    obtain ⟨w1t_, hw1t_⟩ : ∃ zz, zz = own_w1 (own_at cc20 cc21 cc22 ma0) := ⟨_, rfl⟩
    obtain ⟨w2t_, hw2t_⟩ : ∃ zz, zz = own_w2 x (own_at cc20 cc21 cc22 ma1) w1t_ := ⟨_, rfl⟩
    obtain ⟨w3t_, hw3t_⟩ : ∃ zz, zz = own_w3 y z (own_at cc20 cc21 cc22 ma2) w2t_ := ⟨_, rfl⟩
    obtain ⟨mwt_, hmwt_⟩ : ∃ zz, zz = own_at ma0 ma1 ma2 w3t_ := ⟨_, rfl⟩
    obtain ⟨d0t_, hd0t_⟩ : ∃ zz, zz = own_p 0 mwt_ ((own_at cc20 cc21 cc22 mwt_) - (1 : Int32)) cc20 := ⟨_, rfl⟩
    obtain ⟨d1t_, hd1t_⟩ : ∃ zz, zz = own_p 1 mwt_ ((own_at cc20 cc21 cc22 mwt_) - (1 : Int32)) cc21 := ⟨_, rfl⟩
    obtain ⟨d2t_, hd2t_⟩ : ∃ zz, zz = own_p 2 mwt_ ((own_at cc20 cc21 cc22 mwt_) - (1 : Int32)) cc22 := ⟨_, rfl⟩
    obtain ⟨n0t_, hn0t_⟩ : ∃ zz, zz = own_p 0 w3t_ (0 : Int32) ma0 := ⟨_, rfl⟩
    obtain ⟨n1t_, hn1t_⟩ : ∃ zz, zz = own_p 1 w3t_ (0 : Int32) ma1 := ⟨_, rfl⟩
    obtain ⟨n2t_, hn2t_⟩ : ∃ zz, zz = own_p 2 w3t_ (0 : Int32) ma2 := ⟨_, rfl⟩
    have hWw3t_ : (w3t_ = 0 ∨ w3t_ = 1 ∨ w3t_ = 2) := by
      have q := own_L30 x y z ra0 ra1 ra2
      rw [H0, own_worstE hw1t_ hw2t_ hw3t_] at q
      exact q he0
    have hRmwt_ : (mwt_ = 0 ∨ mwt_ = 1 ∨ mwt_ = 2) := by rw [hmwt_]; exact own_atr (P := fun i => (i = 0 ∨ i = 1 ∨ i = 2)) ra0 ra1 ra2
    have hRn0t_ : (n0t_ = 0 ∨ n0t_ = 1 ∨ n0t_ = 2) := by rw [hn0t_]; exact own_pr (P := fun i => (i = 0 ∨ i = 1 ∨ i = 2)) (by decide) ra0
    have hRn1t_ : (n1t_ = 0 ∨ n1t_ = 1 ∨ n1t_ = 2) := by rw [hn1t_]; exact own_pr (P := fun i => (i = 0 ∨ i = 1 ∨ i = 2)) (by decide) ra1
    have hRn2t_ : (n2t_ = 0 ∨ n2t_ = 1 ∨ n2t_ = 2) := by rw [hn2t_]; exact own_pr (P := fun i => (i = 0 ∨ i = 1 ∨ i = 2)) (by decide) ra2
    have H1 : own_F1 x y z ma0 ma1 ma2 = (⟨(d0t_ + (1 : Int32)), d1t_, d2t_, n0t_, n1t_, n2t_, (1 : Int32)⟩ : own_St) := own_F1u H0 he0 hw1t_ hw2t_ hw3t_ hmwt_ hd0t_ hd1t_ hd2t_ hn0t_ hn1t_ hn2t_
    have Fc261 := (Fc122.other W128 (Nat.ne_of_lt (Nat.lt_of_lt_of_le V_r0.lt (Nat.le_of_eq g101.symm))))
    obtain ⟨cl262, Ar262, qk262, Sz262, Nz262, Hh262, Gg262⟩ := id Fc261
    have hin263 : ¬ ((0 : Int32) < 0 ∨ cl262.slots.size ≤ ((0 : Int32)).toNatClampNeg) := inb_of Sz262 ⟨by decide, by decide⟩
    have hat263 : cl262.slots[((0 : Int32)).toNatClampNeg]? = some (.int ma0) := Has.at Hh262 hin263 rfl
    have hin264 : ¬ (ma0 < 0 ∨ cl131.slots.size ≤ (ma0).toNatClampNeg) := inb_of Sz131 (own_b3 ra0)
    have hat264 : cl131.slots[(ma0).toNatClampNeg]? = some (.int (own_at cc20 cc21 cc22 ma0)) := Has.at Hh131 hin264 (own_g3 ra0)
    have pre265 : ∀ t, Steps p.tables e below (T128.setTop (mkF m 85 #[oR r0, oR r1, oI 3, oR b101, oI 0, oI 0, oI (-1), oI 0] [(.int 1), (.int (own_at cc20 cc21 cc22 ma0))])) t → Steps p.tables e below (s₁.setTop (mkF m 0 #[oR r0, oR r1, oI 3, oU, oU, oU, oU, oU] [])) t := by
      intro t kt
      refine pre133 _ ?_
      show own_S p e below T128 m 59 #[oR r0, oR r1, oI 3, oR b101, oI 0, oI 0, oI 3, oI ma2] [(.int cc20)] _
      refine XS.ifYes X128.here hx rfl (pc0 := 59) (pc' := 65) rfl (hb hby d1_59) rfl ((if0 _ _).trans (flt (he0 : ¬ ((0 : Int32) < cc20))).2.2.2) (by decide) (by decide) ?_
      show own_S p e below T128 m 65 _ [] _
      refine XS.iconst X128.here hx rfl (hb hby d1_65) ?_
      show own_S p e below T128 m 66 _ [(.int (-1))] _
      refine XS.istore X128.here hx rfl (hb hby d1_66) rfl (l' := #[oR r0, oR r1, oI 3, oR b101, oI 0, oI 0, oI (-1), oI ma2]) rfl ?_
      show own_S p e below T128 m 68 #[oR r0, oR r1, oI 3, oR b101, oI 0, oI 0, oI (-1), oI ma2] [] _
      refine XS.iconst X128.here hx rfl (hb hby d1_68) ?_
      show own_S p e below T128 m 69 _ [(.int 0)] _
      refine XS.istore X128.here hx rfl (hb hby d1_69) rfl (l' := #[oR r0, oR r1, oI 3, oR b101, oI 0, oI 0, oI (-1), oI 0]) rfl ?_
      show own_S p e below T128 m 71 #[oR r0, oR r1, oI 3, oR b101, oI 0, oI 0, oI (-1), oI 0] [] _
      refine XS.iload X128.here hx rfl (hb hby d1_71) rfl ?_
      show own_S p e below T128 m 73 _ [(.int 0)] _
      refine XS.aloadN X128.here hx rfl (hb hby d1_73) rfl rfl ?_
      show own_S p e below T128 m 74 _ [(.ref r0), (.int 0)] _
      refine X128.arraylength hx (by rw [e128]; exact Ar262.1) (State.isArrayOf_alike hZ.alike Ar262.2.1) (g := (mkF m 74 #[oR r0, oR r1, oI 3, oR b101, oI 0, oI 0, oI (-1), oI 0] [(.ref r0), (.int 0)])) rfl rfl (hb hby d1_74) _ ?_
      rw [len_of Sz262 Nz262]
      show own_S p e below T128 m 75 _ [(.int 3), (.int 0)] _
      refine XS.icmpNo X128.here hx rfl (hb hby d1_75) rfl (tlt (by decide : (0 : Int32) < (3 : Int32))).2.1 ?_
      show own_S p e below T128 m 78 _ [] _
      refine XS.aloadN X128.here hx rfl (hb hby d1_78) rfl rfl ?_
      show own_S p e below T128 m 79 _ [(.ref b101)] _
      refine XS.aloadN X128.here hx rfl (hb hby d1_79) rfl rfl ?_
      show own_S p e below T128 m 80 _ [(.ref r0), (.ref b101)] _
      refine XS.iload X128.here hx rfl (hb hby d1_80) rfl ?_
      show own_S p e below T128 m 82 #[oR r0, oR r1, oI 3, oR b101, oI 0, oI 0, oI (-1), oI 0] [(.int 0), (.ref r0), (.ref b101)] _
      refine X128.iaload hx (j := (0 : Int32)) (v := (.int ma0)) (by rw [e128]; exact Ar262.1) (State.isArrayOf_alike hZ.alike Ar262.2.1) Ar262.2.2 hin263 hat263 (g := (mkF m 82 #[oR r0, oR r1, oI 3, oR b101, oI 0, oI 0, oI (-1), oI 0] [(.int 0), (.ref r0), (.ref b101)])) rfl rfl (hb hby d1_82) _ ?_
      show own_S p e below T128 m 83 _ [(.int ma0), (.ref b101)] _
      refine X128.iaload hx (j := ma0) (v := (.int (own_at cc20 cc21 cc22 ma0))) (by rw [e128]; exact Ar131.1) (State.isArrayOf_alike hZ.alike Ar131.2.1) Ar131.2.2 hin264 hat264 (g := (mkF m 83 #[oR r0, oR r1, oI 3, oR b101, oI 0, oI 0, oI (-1), oI 0] [(.int ma0), (.ref b101)])) rfl rfl (hb hby d1_83) _ ?_
      show own_S p e below T128 m 84 _ [(.int (own_at cc20 cc21 cc22 ma0))] _
      refine XS.iconst X128.here hx rfl (hb hby d1_84) ?_
      exact kt
    have pre266 : ∀ t, Steps p.tables e below (T128.setTop (mkF m 109 #[oR r0, oR r1, oI 3, oR b101, oI 0, oI 0, oI w1t_, oI 0] [])) t → Steps p.tables e below (s₁.setTop (mkF m 0 #[oR r0, oR r1, oI 3, oU, oU, oU, oU, oU] [])) t := by
      intro t kt
      refine pre265 _ ?_
      show own_S p e below T128 m 85 #[oR r0, oR r1, oI 3, oR b101, oI 0, oI 0, oI (-1), oI 0] [(.int 1), (.int (own_at cc20 cc21 cc22 ma0))] _
      by_cases hj : (1 : Int32) < (own_at cc20 cc21 cc22 ma0)
      · skip
        refine XS.icmpNo X128.here hx rfl (hb hby d1_85) rfl (tlt (hj : (1 : Int32) < (own_at cc20 cc21 cc22 ma0))).2.2.2 ?_
        show own_S p e below T128 m 88 #[oR r0, oR r1, oI 3, oR b101, oI 0, oI 0, oI (-1), oI 0] [] _
        refine XS.iload X128.here hx rfl (hb hby d1_88) rfl ?_
        show own_S p e below T128 m 90 _ [(.int (-1))] _
        refine XS.ifYes X128.here hx rfl (pc0 := 90) (pc' := 105) rfl (hb hby d1_90) rfl ((if0 _ _).trans (tlt (by decide : (-1 : Int32) < (0 : Int32))).1) (by decide) (by decide) ?_
        show own_S p e below T128 m 105 _ [] _
        refine XS.iload X128.here hx rfl (hb hby d1_105) rfl ?_
        show own_S p e below T128 m 107 _ [(.int 0)] _
        refine XS.istore X128.here hx rfl (hb hby d1_107) rfl (l' := #[oR r0, oR r1, oI 3, oR b101, oI 0, oI 0, oI 0, oI 0]) rfl ?_
        rw [(hw1t_.trans (if_pos hj) : w1t_ = (0 : Int32))] at kt
        exact kt
      · skip
        refine XS.icmpYes X128.here hx rfl (pc0 := 85) (pc' := 109) rfl (hb hby d1_85) rfl (flt (hj : ¬ ((1 : Int32) < (own_at cc20 cc21 cc22 ma0)))).2.2.2 (by decide) (by decide) ?_
        rw [(hw1t_.trans (if_neg hj) : w1t_ = (-1 : Int32))] at kt
        exact kt
    have hin267 : ¬ ((1 : Int32) < 0 ∨ cl262.slots.size ≤ ((1 : Int32)).toNatClampNeg) := inb_of Sz262 ⟨by decide, by decide⟩
    have hat267 : cl262.slots[((1 : Int32)).toNatClampNeg]? = some (.int ma1) := Has.at Hh262 hin267 rfl
    have hin268 : ¬ (ma1 < 0 ∨ cl131.slots.size ≤ (ma1).toNatClampNeg) := inb_of Sz131 (own_b3 ra1)
    have hat268 : cl131.slots[(ma1).toNatClampNeg]? = some (.int (own_at cc20 cc21 cc22 ma1)) := Has.at Hh131 hin268 (own_g3 ra1)
    have pre269 : ∀ t, Steps p.tables e below (T128.setTop (mkF m 85 #[oR r0, oR r1, oI 3, oR b101, oI 0, oI 0, oI w1t_, oI 1] [(.int 1), (.int (own_at cc20 cc21 cc22 ma1))])) t → Steps p.tables e below (s₁.setTop (mkF m 0 #[oR r0, oR r1, oI 3, oU, oU, oU, oU, oU] [])) t := by
      intro t kt
      refine pre266 _ ?_
      show own_S p e below T128 m 109 #[oR r0, oR r1, oI 3, oR b101, oI 0, oI 0, oI w1t_, oI 0] [] _
      refine XS.iinc X128.here hx rfl (hb hby d1_109) rfl (l' := #[oR r0, oR r1, oI 3, oR b101, oI 0, oI 0, oI w1t_, oI 1]) rfl ?_
      show own_S p e below T128 m 112 #[oR r0, oR r1, oI 3, oR b101, oI 0, oI 0, oI w1t_, oI 1] [] _
      refine XS.goto X128.here hx rfl (pc0 := 112) (pc' := 71) rfl (hb hby d1_112) (by decide) (by decide) ?_
      show own_S p e below T128 m 71 _ [] _
      refine XS.iload X128.here hx rfl (hb hby d1_71) rfl ?_
      show own_S p e below T128 m 73 _ [(.int 1)] _
      refine XS.aloadN X128.here hx rfl (hb hby d1_73) rfl rfl ?_
      show own_S p e below T128 m 74 _ [(.ref r0), (.int 1)] _
      refine X128.arraylength hx (by rw [e128]; exact Ar262.1) (State.isArrayOf_alike hZ.alike Ar262.2.1) (g := (mkF m 74 #[oR r0, oR r1, oI 3, oR b101, oI 0, oI 0, oI w1t_, oI 1] [(.ref r0), (.int 1)])) rfl rfl (hb hby d1_74) _ ?_
      rw [len_of Sz262 Nz262]
      show own_S p e below T128 m 75 _ [(.int 3), (.int 1)] _
      refine XS.icmpNo X128.here hx rfl (hb hby d1_75) rfl (tlt (by decide : (1 : Int32) < (3 : Int32))).2.1 ?_
      show own_S p e below T128 m 78 _ [] _
      refine XS.aloadN X128.here hx rfl (hb hby d1_78) rfl rfl ?_
      show own_S p e below T128 m 79 _ [(.ref b101)] _
      refine XS.aloadN X128.here hx rfl (hb hby d1_79) rfl rfl ?_
      show own_S p e below T128 m 80 #[oR r0, oR r1, oI 3, oR b101, oI 0, oI 0, oI w1t_, oI 1] [(.ref r0), (.ref b101)] _
      refine XS.iload X128.here hx rfl (hb hby d1_80) rfl ?_
      show own_S p e below T128 m 82 _ [(.int 1), (.ref r0), (.ref b101)] _
      refine X128.iaload hx (j := (1 : Int32)) (v := (.int ma1)) (by rw [e128]; exact Ar262.1) (State.isArrayOf_alike hZ.alike Ar262.2.1) Ar262.2.2 hin267 hat267 (g := (mkF m 82 #[oR r0, oR r1, oI 3, oR b101, oI 0, oI 0, oI w1t_, oI 1] [(.int 1), (.ref r0), (.ref b101)])) rfl rfl (hb hby d1_82) _ ?_
      show own_S p e below T128 m 83 _ [(.int ma1), (.ref b101)] _
      refine X128.iaload hx (j := ma1) (v := (.int (own_at cc20 cc21 cc22 ma1))) (by rw [e128]; exact Ar131.1) (State.isArrayOf_alike hZ.alike Ar131.2.1) Ar131.2.2 hin268 hat268 (g := (mkF m 83 #[oR r0, oR r1, oI 3, oR b101, oI 0, oI 0, oI w1t_, oI 1] [(.int ma1), (.ref b101)])) rfl rfl (hb hby d1_83) _ ?_
      show own_S p e below T128 m 84 _ [(.int (own_at cc20 cc21 cc22 ma1))] _
      refine XS.iconst X128.here hx rfl (hb hby d1_84) ?_
      exact kt
    have pre274 : ∀ t, Steps p.tables e below (T128.setTop (mkF m 109 #[oR r0, oR r1, oI 3, oR b101, oI 0, oI 0, oI w2t_, oI 1] [])) t → Steps p.tables e below (s₁.setTop (mkF m 0 #[oR r0, oR r1, oI 3, oU, oU, oU, oU, oU] [])) t := by
      intro t kt
      refine pre269 _ ?_
      show own_S p e below T128 m 85 #[oR r0, oR r1, oI 3, oR b101, oI 0, oI 0, oI w1t_, oI 1] [(.int 1), (.int (own_at cc20 cc21 cc22 ma1))] _
      by_cases hj : (1 : Int32) < (own_at cc20 cc21 cc22 ma1)
      · skip
        refine XS.icmpNo X128.here hx rfl (hb hby d1_85) rfl (tlt (hj : (1 : Int32) < (own_at cc20 cc21 cc22 ma1))).2.2.2 ?_
        show own_S p e below T128 m 88 #[oR r0, oR r1, oI 3, oR b101, oI 0, oI 0, oI w1t_, oI 1] [] _
        refine XS.iload X128.here hx rfl (hb hby d1_88) rfl ?_
        show own_S p e below T128 m 90 _ [(.int w1t_)] _
        by_cases hn : w1t_ < (0 : Int32)
        · skip
          refine XS.ifYes X128.here hx rfl (pc0 := 90) (pc' := 105) rfl (hb hby d1_90) rfl ((if0 _ _).trans (tlt (hn : w1t_ < (0 : Int32))).1) (by decide) (by decide) ?_
          show own_S p e below T128 m 105 #[oR r0, oR r1, oI 3, oR b101, oI 0, oI 0, oI w1t_, oI 1] [] _
          refine XS.iload X128.here hx rfl (hb hby d1_105) rfl ?_
          show own_S p e below T128 m 107 _ [(.int 1)] _
          refine XS.istore X128.here hx rfl (hb hby d1_107) rfl (l' := #[oR r0, oR r1, oI 3, oR b101, oI 0, oI 0, oI 1, oI 1]) rfl ?_
          rw [(hw2t_.trans (own_w2TT hj hn) : w2t_ = (1 : Int32))] at kt
          exact kt
        · skip
          have Fc270 := ((((V_r1.ext E101).other W110 (Nat.ne_of_lt (Nat.lt_of_lt_of_le V_r1.lt (Nat.le_of_eq g101.symm)))).other W119 (Nat.ne_of_lt (Nat.lt_of_lt_of_le V_r1.lt (Nat.le_of_eq g101.symm)))).other W128 (Nat.ne_of_lt (Nat.lt_of_lt_of_le V_r1.lt (Nat.le_of_eq g101.symm))))
          obtain ⟨cl271, Ar271, qk271, Sz271, Nz271, Hh271, Gg271⟩ := id Fc270
          have hin272 : ¬ ((1 : Int32) < 0 ∨ cl271.slots.size ≤ ((1 : Int32)).toNatClampNeg) := inb_of Sz271 ⟨by decide, by decide⟩
          have hat272 : cl271.slots[((1 : Int32)).toNatClampNeg]? = some (.double f1) := Has.at Hh271 hin272 rfl
          have hin273 : ¬ (w1t_ < 0 ∨ cl271.slots.size ≤ (w1t_).toNatClampNeg) := inb_of Sz271 (own_b00 (own_w1z hw1t_ hn))
          have hat273 : cl271.slots[(w1t_).toNatClampNeg]? = some (.double f0) := Has.at Hh271 hin273 (own_gd0 (own_w1z hw1t_ hn))
          refine XS.ifNo X128.here hx rfl (hb hby d1_90) rfl ((if0 _ _).trans (flt (hn : ¬ (w1t_ < (0 : Int32)))).1) ?_
          show own_S p e below T128 m 93 #[oR r0, oR r1, oI 3, oR b101, oI 0, oI 0, oI w1t_, oI 1] [] _
          refine XS.aloadN X128.here hx rfl (hb hby d1_93) rfl rfl ?_
          show own_S p e below T128 m 94 _ [(.ref r1)] _
          refine XS.iload X128.here hx rfl (hb hby d1_94) rfl ?_
          show own_S p e below T128 m 96 _ [(.int 1), (.ref r1)] _
          refine X128.daload hx (j := (1 : Int32)) (v := (.double f1)) (by rw [e128]; exact Ar271.1) (State.isArrayOf_alike hZ.alike Ar271.2.1) Ar271.2.2 hin272 hat272 (g := (mkF m 96 #[oR r0, oR r1, oI 3, oR b101, oI 0, oI 0, oI w1t_, oI 1] [(.int 1), (.ref r1)])) rfl rfl (hb hby d1_96) _ ?_
          show own_S p e below T128 m 97 _ [(.double f1)] _
          refine XS.aloadN X128.here hx rfl (hb hby d1_97) rfl rfl ?_
          show own_S p e below T128 m 98 _ [(.ref r1), (.double f1)] _
          refine XS.iload X128.here hx rfl (hb hby d1_98) rfl ?_
          show own_S p e below T128 m 100 _ [(.int w1t_), (.ref r1), (.double f1)] _
          refine X128.daload hx (j := w1t_) (v := (.double f0)) (by rw [e128]; exact Ar271.1) (State.isArrayOf_alike hZ.alike Ar271.2.1) Ar271.2.2 hin273 hat273 (g := (mkF m 100 #[oR r0, oR r1, oI 3, oR b101, oI 0, oI 0, oI w1t_, oI 1] [(.int w1t_), (.ref r1), (.double f1)])) rfl rfl (hb hby d1_100) _ ?_
          show own_S p e below T128 m 101 _ [(.double f0), (.double f1)] _
          refine XS.dcmpS X128.here hx rfl (v := (cmpValue (FP.dcmp f1 f0) .g)) (hb hby d1_101) rfl rfl ?_
          show own_S p e below T128 m 102 #[oR r0, oR r1, oI 3, oR b101, oI 0, oI 0, oI w1t_, oI 1] [(.int (cmpValue (FP.dcmp f1 f0) .g))] _
          by_cases hd : (cmpValue (FP.dcmp f1 f0) .g) < (0 : Int32)
          · skip
            refine XS.ifNo X128.here hx rfl (hb hby d1_102) rfl ((if0 _ _).trans (tlt (hd : (cmpValue (FP.dcmp f1 f0) .g) < (0 : Int32))).2.1) ?_
            show own_S p e below T128 m 105 #[oR r0, oR r1, oI 3, oR b101, oI 0, oI 0, oI w1t_, oI 1] [] _
            refine XS.iload X128.here hx rfl (hb hby d1_105) rfl ?_
            show own_S p e below T128 m 107 _ [(.int 1)] _
            refine XS.istore X128.here hx rfl (hb hby d1_107) rfl (l' := #[oR r0, oR r1, oI 3, oR b101, oI 0, oI 0, oI 1, oI 1]) rfl ?_
            rw [(hw2t_.trans (own_w2TFT hj hn (cx.mp hd)) : w2t_ = (1 : Int32))] at kt
            exact kt
          · skip
            refine XS.ifYes X128.here hx rfl (pc0 := 102) (pc' := 109) rfl (hb hby d1_102) rfl ((if0 _ _).trans (flt (hd : ¬ ((cmpValue (FP.dcmp f1 f0) .g) < (0 : Int32)))).2.1) (by decide) (by decide) ?_
            rw [(hw2t_.trans (own_w2TFF hj hn (fun q => hd (cx.mpr q))) : w2t_ = w1t_)] at kt
            exact kt
      · skip
        refine XS.icmpYes X128.here hx rfl (pc0 := 85) (pc' := 109) rfl (hb hby d1_85) rfl (flt (hj : ¬ ((1 : Int32) < (own_at cc20 cc21 cc22 ma1)))).2.2.2 (by decide) (by decide) ?_
        rw [(hw2t_.trans (own_w2F hj) : w2t_ = w1t_)] at kt
        exact kt
    have hin275 : ¬ ((2 : Int32) < 0 ∨ cl262.slots.size ≤ ((2 : Int32)).toNatClampNeg) := inb_of Sz262 ⟨by decide, by decide⟩
    have hat275 : cl262.slots[((2 : Int32)).toNatClampNeg]? = some (.int ma2) := Has.at Hh262 hin275 rfl
    have hin276 : ¬ (ma2 < 0 ∨ cl131.slots.size ≤ (ma2).toNatClampNeg) := inb_of Sz131 (own_b3 ra2)
    have hat276 : cl131.slots[(ma2).toNatClampNeg]? = some (.int (own_at cc20 cc21 cc22 ma2)) := Has.at Hh131 hin276 (own_g3 ra2)
    have pre277 : ∀ t, Steps p.tables e below (T128.setTop (mkF m 85 #[oR r0, oR r1, oI 3, oR b101, oI 0, oI 0, oI w2t_, oI 2] [(.int 1), (.int (own_at cc20 cc21 cc22 ma2))])) t → Steps p.tables e below (s₁.setTop (mkF m 0 #[oR r0, oR r1, oI 3, oU, oU, oU, oU, oU] [])) t := by
      intro t kt
      refine pre274 _ ?_
      show own_S p e below T128 m 109 #[oR r0, oR r1, oI 3, oR b101, oI 0, oI 0, oI w2t_, oI 1] [] _
      refine XS.iinc X128.here hx rfl (hb hby d1_109) rfl (l' := #[oR r0, oR r1, oI 3, oR b101, oI 0, oI 0, oI w2t_, oI 2]) rfl ?_
      show own_S p e below T128 m 112 #[oR r0, oR r1, oI 3, oR b101, oI 0, oI 0, oI w2t_, oI 2] [] _
      refine XS.goto X128.here hx rfl (pc0 := 112) (pc' := 71) rfl (hb hby d1_112) (by decide) (by decide) ?_
      show own_S p e below T128 m 71 _ [] _
      refine XS.iload X128.here hx rfl (hb hby d1_71) rfl ?_
      show own_S p e below T128 m 73 _ [(.int 2)] _
      refine XS.aloadN X128.here hx rfl (hb hby d1_73) rfl rfl ?_
      show own_S p e below T128 m 74 _ [(.ref r0), (.int 2)] _
      refine X128.arraylength hx (by rw [e128]; exact Ar262.1) (State.isArrayOf_alike hZ.alike Ar262.2.1) (g := (mkF m 74 #[oR r0, oR r1, oI 3, oR b101, oI 0, oI 0, oI w2t_, oI 2] [(.ref r0), (.int 2)])) rfl rfl (hb hby d1_74) _ ?_
      rw [len_of Sz262 Nz262]
      show own_S p e below T128 m 75 _ [(.int 3), (.int 2)] _
      refine XS.icmpNo X128.here hx rfl (hb hby d1_75) rfl (tlt (by decide : (2 : Int32) < (3 : Int32))).2.1 ?_
      show own_S p e below T128 m 78 _ [] _
      refine XS.aloadN X128.here hx rfl (hb hby d1_78) rfl rfl ?_
      show own_S p e below T128 m 79 _ [(.ref b101)] _
      refine XS.aloadN X128.here hx rfl (hb hby d1_79) rfl rfl ?_
      show own_S p e below T128 m 80 #[oR r0, oR r1, oI 3, oR b101, oI 0, oI 0, oI w2t_, oI 2] [(.ref r0), (.ref b101)] _
      refine XS.iload X128.here hx rfl (hb hby d1_80) rfl ?_
      show own_S p e below T128 m 82 _ [(.int 2), (.ref r0), (.ref b101)] _
      refine X128.iaload hx (j := (2 : Int32)) (v := (.int ma2)) (by rw [e128]; exact Ar262.1) (State.isArrayOf_alike hZ.alike Ar262.2.1) Ar262.2.2 hin275 hat275 (g := (mkF m 82 #[oR r0, oR r1, oI 3, oR b101, oI 0, oI 0, oI w2t_, oI 2] [(.int 2), (.ref r0), (.ref b101)])) rfl rfl (hb hby d1_82) _ ?_
      show own_S p e below T128 m 83 _ [(.int ma2), (.ref b101)] _
      refine X128.iaload hx (j := ma2) (v := (.int (own_at cc20 cc21 cc22 ma2))) (by rw [e128]; exact Ar131.1) (State.isArrayOf_alike hZ.alike Ar131.2.1) Ar131.2.2 hin276 hat276 (g := (mkF m 83 #[oR r0, oR r1, oI 3, oR b101, oI 0, oI 0, oI w2t_, oI 2] [(.int ma2), (.ref b101)])) rfl rfl (hb hby d1_83) _ ?_
      show own_S p e below T128 m 84 _ [(.int (own_at cc20 cc21 cc22 ma2))] _
      refine XS.iconst X128.here hx rfl (hb hby d1_84) ?_
      exact kt
    have pre282 : ∀ t, Steps p.tables e below (T128.setTop (mkF m 109 #[oR r0, oR r1, oI 3, oR b101, oI 0, oI 0, oI w3t_, oI 2] [])) t → Steps p.tables e below (s₁.setTop (mkF m 0 #[oR r0, oR r1, oI 3, oU, oU, oU, oU, oU] [])) t := by
      intro t kt
      refine pre277 _ ?_
      show own_S p e below T128 m 85 #[oR r0, oR r1, oI 3, oR b101, oI 0, oI 0, oI w2t_, oI 2] [(.int 1), (.int (own_at cc20 cc21 cc22 ma2))] _
      by_cases hj : (1 : Int32) < (own_at cc20 cc21 cc22 ma2)
      · skip
        refine XS.icmpNo X128.here hx rfl (hb hby d1_85) rfl (tlt (hj : (1 : Int32) < (own_at cc20 cc21 cc22 ma2))).2.2.2 ?_
        show own_S p e below T128 m 88 #[oR r0, oR r1, oI 3, oR b101, oI 0, oI 0, oI w2t_, oI 2] [] _
        refine XS.iload X128.here hx rfl (hb hby d1_88) rfl ?_
        show own_S p e below T128 m 90 _ [(.int w2t_)] _
        by_cases hn : w2t_ < (0 : Int32)
        · skip
          refine XS.ifYes X128.here hx rfl (pc0 := 90) (pc' := 105) rfl (hb hby d1_90) rfl ((if0 _ _).trans (tlt (hn : w2t_ < (0 : Int32))).1) (by decide) (by decide) ?_
          show own_S p e below T128 m 105 #[oR r0, oR r1, oI 3, oR b101, oI 0, oI 0, oI w2t_, oI 2] [] _
          refine XS.iload X128.here hx rfl (hb hby d1_105) rfl ?_
          show own_S p e below T128 m 107 _ [(.int 2)] _
          refine XS.istore X128.here hx rfl (hb hby d1_107) rfl (l' := #[oR r0, oR r1, oI 3, oR b101, oI 0, oI 0, oI 2, oI 2]) rfl ?_
          rw [(hw3t_.trans (own_w3TT hj hn) : w3t_ = (2 : Int32))] at kt
          exact kt
        · skip
          have Fc278 := ((((V_r1.ext E101).other W110 (Nat.ne_of_lt (Nat.lt_of_lt_of_le V_r1.lt (Nat.le_of_eq g101.symm)))).other W119 (Nat.ne_of_lt (Nat.lt_of_lt_of_le V_r1.lt (Nat.le_of_eq g101.symm)))).other W128 (Nat.ne_of_lt (Nat.lt_of_lt_of_le V_r1.lt (Nat.le_of_eq g101.symm))))
          obtain ⟨cl279, Ar279, qk279, Sz279, Nz279, Hh279, Gg279⟩ := id Fc278
          have hin280 : ¬ ((2 : Int32) < 0 ∨ cl279.slots.size ≤ ((2 : Int32)).toNatClampNeg) := inb_of Sz279 ⟨by decide, by decide⟩
          have hat280 : cl279.slots[((2 : Int32)).toNatClampNeg]? = some (.double f2) := Has.at Hh279 hin280 rfl
          have hin281 : ¬ (w2t_ < 0 ∨ cl279.slots.size ≤ (w2t_).toNatClampNeg) := inb_of Sz279 (own_b01 (own_w2z hw1t_ hw2t_ hn))
          have hat281 : cl279.slots[(w2t_).toNatClampNeg]? = some (.double (own_atD f0 f1 w2t_)) := Has.at Hh279 hin281 (own_gd (own_w2z hw1t_ hw2t_ hn))
          refine XS.ifNo X128.here hx rfl (hb hby d1_90) rfl ((if0 _ _).trans (flt (hn : ¬ (w2t_ < (0 : Int32)))).1) ?_
          show own_S p e below T128 m 93 #[oR r0, oR r1, oI 3, oR b101, oI 0, oI 0, oI w2t_, oI 2] [] _
          refine XS.aloadN X128.here hx rfl (hb hby d1_93) rfl rfl ?_
          show own_S p e below T128 m 94 _ [(.ref r1)] _
          refine XS.iload X128.here hx rfl (hb hby d1_94) rfl ?_
          show own_S p e below T128 m 96 _ [(.int 2), (.ref r1)] _
          refine X128.daload hx (j := (2 : Int32)) (v := (.double f2)) (by rw [e128]; exact Ar279.1) (State.isArrayOf_alike hZ.alike Ar279.2.1) Ar279.2.2 hin280 hat280 (g := (mkF m 96 #[oR r0, oR r1, oI 3, oR b101, oI 0, oI 0, oI w2t_, oI 2] [(.int 2), (.ref r1)])) rfl rfl (hb hby d1_96) _ ?_
          show own_S p e below T128 m 97 _ [(.double f2)] _
          refine XS.aloadN X128.here hx rfl (hb hby d1_97) rfl rfl ?_
          show own_S p e below T128 m 98 _ [(.ref r1), (.double f2)] _
          refine XS.iload X128.here hx rfl (hb hby d1_98) rfl ?_
          show own_S p e below T128 m 100 _ [(.int w2t_), (.ref r1), (.double f2)] _
          refine X128.daload hx (j := w2t_) (v := (.double (own_atD f0 f1 w2t_))) (by rw [e128]; exact Ar279.1) (State.isArrayOf_alike hZ.alike Ar279.2.1) Ar279.2.2 hin281 hat281 (g := (mkF m 100 #[oR r0, oR r1, oI 3, oR b101, oI 0, oI 0, oI w2t_, oI 2] [(.int w2t_), (.ref r1), (.double f2)])) rfl rfl (hb hby d1_100) _ ?_
          show own_S p e below T128 m 101 _ [(.double (own_atD f0 f1 w2t_)), (.double f2)] _
          refine XS.dcmpS X128.here hx rfl (v := (cmpValue (FP.dcmp f2 (own_atD f0 f1 w2t_)) .g)) (hb hby d1_101) rfl rfl ?_
          show own_S p e below T128 m 102 #[oR r0, oR r1, oI 3, oR b101, oI 0, oI 0, oI w2t_, oI 2] [(.int (cmpValue (FP.dcmp f2 (own_atD f0 f1 w2t_)) .g))] _
          by_cases hd : (cmpValue (FP.dcmp f2 (own_atD f0 f1 w2t_)) .g) < (0 : Int32)
          · skip
            refine XS.ifNo X128.here hx rfl (hb hby d1_102) rfl ((if0 _ _).trans (tlt (hd : (cmpValue (FP.dcmp f2 (own_atD f0 f1 w2t_)) .g) < (0 : Int32))).2.1) ?_
            show own_S p e below T128 m 105 #[oR r0, oR r1, oI 3, oR b101, oI 0, oI 0, oI w2t_, oI 2] [] _
            refine XS.iload X128.here hx rfl (hb hby d1_105) rfl ?_
            show own_S p e below T128 m 107 _ [(.int 2)] _
            refine XS.istore X128.here hx rfl (hb hby d1_107) rfl (l' := #[oR r0, oR r1, oI 3, oR b101, oI 0, oI 0, oI 2, oI 2]) rfl ?_
            rw [(hw3t_.trans (own_w3TFT hj hn ((own_cyz (own_w2z hw1t_ hw2t_ hn) cy cz).mp hd)) : w3t_ = (2 : Int32))] at kt
            exact kt
          · skip
            refine XS.ifYes X128.here hx rfl (pc0 := 102) (pc' := 109) rfl (hb hby d1_102) rfl ((if0 _ _).trans (flt (hd : ¬ ((cmpValue (FP.dcmp f2 (own_atD f0 f1 w2t_)) .g) < (0 : Int32)))).2.1) (by decide) (by decide) ?_
            rw [(hw3t_.trans (own_w3TFF hj hn (fun q => hd ((own_cyz (own_w2z hw1t_ hw2t_ hn) cy cz).mpr q))) : w3t_ = w2t_)] at kt
            exact kt
      · skip
        refine XS.icmpYes X128.here hx rfl (pc0 := 85) (pc' := 109) rfl (hb hby d1_85) rfl (flt (hj : ¬ ((1 : Int32) < (own_at cc20 cc21 cc22 ma2)))).2.2.2 (by decide) (by decide) ?_
        rw [(hw3t_.trans (own_w3F hj) : w3t_ = w2t_)] at kt
        exact kt
    have hin283 : ¬ (w3t_ < 0 ∨ cl262.slots.size ≤ (w3t_).toNatClampNeg) := inb_of Sz262 (own_b3 hWw3t_)
    have hat283 : cl262.slots[(w3t_).toNatClampNeg]? = some (.int mwt_) := Has.at Hh262 hin283 (by rw [hmwt_]; exact own_g3 hWw3t_)
    have hin284 : ¬ (mwt_ < 0 ∨ cl131.slots.size ≤ (mwt_).toNatClampNeg) := inb_of Sz131 (own_b3 hRmwt_)
    have hat284 : cl131.slots[(mwt_).toNatClampNeg]? = some (.int (own_at cc20 cc21 cc22 mwt_)) := Has.at Hh131 hin284 (own_g3 hRmwt_)
    have hin285 : ¬ (mwt_ < 0 ∨ cl131.slots.size ≤ (mwt_).toNatClampNeg) := inb_of Sz131 (own_b3 hRmwt_)
    obtain ⟨T286, h286, X286, e286, W286, st286⟩ := stI X128 hx hZ e128 Ar131 (j := mwt_) hin285 (g := (mkF m 124 #[oR r0, oR r1, oI 3, oR b101, oI 0, oI 0, oI w3t_, oI 3] [(.int ((own_at cc20 cc21 cc22 mwt_) - (1 : Int32))), (.int mwt_), (.ref b101)])) rfl rfl (hb hby d1_124)
    have Va286 := Arv.set Ar131 qk131 Sz131 Nz131 Hh131 Gg131 rfl W286 (mwt_).toNatClampNeg rfl (own_l3 hRmwt_)
    have Vs286 : Arv Z h286 b101 k101 .int (3 : Int32) [(.int d0t_), (.int d1t_), (.int d2t_)] (.int 0) := by rw [← (by rw [hd0t_, hd1t_, hd2t_]; exact own_s3 hRmwt_ : ([(.int cc20), (.int cc21), (.int cc22)] : List Value).set (mwt_).toNatClampNeg (.int ((own_at cc20 cc21 cc22 mwt_) - (1 : Int32))) = [(.int d0t_), (.int d1t_), (.int d2t_)])]; exact Va286
    have N286 := Fr.snoc X286 N128 g_b101
    have ZZ287 : n0 ≤ h286.size := Nat.le_trans ZZ129 (Nat.le_of_eq W286.size.symm)
    have KK288 : Keep h0 h286 [r0] := KK130.wr W286 (Or.inr sz_b101)
    obtain ⟨cl289, Ar289, qk289, Sz289, Nz289, Hh289, Gg289⟩ := id Vs286
    have hin290 : ¬ ((0 : Int32) < 0 ∨ cl289.slots.size ≤ ((0 : Int32)).toNatClampNeg) := inb_of Sz289 ⟨by decide, by decide⟩
    have hat290 : cl289.slots[((0 : Int32)).toNatClampNeg]? = some (.int d0t_) := Has.at Hh289 hin290 rfl
    have hin291 : ¬ ((0 : Int32) < 0 ∨ cl289.slots.size ≤ ((0 : Int32)).toNatClampNeg) := inb_of Sz289 ⟨by decide, by decide⟩
    obtain ⟨T292, h292, X292, e292, W292, st292⟩ := stI X286 hx hZ e286 Ar289 (j := (0 : Int32)) hin291 (g := (mkF m 132 #[oR r0, oR r1, oI 3, oR b101, oI 0, oI 0, oI w3t_, oI 3] [(.int (d0t_ + (1 : Int32))), (.int 0), (.ref b101)])) rfl rfl (hb hby d1_132)
    have Va292 := Arv.set Ar289 qk289 Sz289 Nz289 Hh289 Gg289 rfl W292 0 rfl (Nat.le_of_ble_eq_true rfl)
    have N292 := Fr.snoc X292 N286 g_b101
    have ZZ293 : n0 ≤ h292.size := Nat.le_trans ZZ287 (Nat.le_of_eq W292.size.symm)
    have KK294 : Keep h0 h292 [r0] := KK288.wr W292 (Or.inr sz_b101)
    have Fc295 := ((Fc261.other W286 (Nat.ne_of_lt (Nat.lt_of_lt_of_le V_r0.lt (Nat.le_of_eq g101.symm)))).other W292 (Nat.ne_of_lt (Nat.lt_of_lt_of_le V_r0.lt (Nat.le_of_eq g101.symm))))
    obtain ⟨cl296, Ar296, qk296, Sz296, Nz296, Hh296, Gg296⟩ := id Fc295
    have hin297 : ¬ (w3t_ < 0 ∨ cl296.slots.size ≤ (w3t_).toNatClampNeg) := inb_of Sz296 (own_b3 hWw3t_)
    obtain ⟨T298, h298, X298, e298, W298, st298⟩ := stI X292 hx hZ e292 Ar296 (j := w3t_) hin297 (g := (mkF m 138 #[oR r0, oR r1, oI 3, oR b101, oI 0, oI 0, oI w3t_, oI 3] [(.int 0), (.int w3t_), (.ref r0)])) rfl rfl (hb hby d1_138)
    have Va298 := Arv.set Ar296 qk296 Sz296 Nz296 Hh296 Gg296 rfl W298 (w3t_).toNatClampNeg rfl (own_l3 hWw3t_)
    have Vs298 : Arv Z h298 r0 ka .int (3 : Int32) [(.int n0t_), (.int n1t_), (.int n2t_)] (.int 0) := by rw [← (by rw [hn0t_, hn1t_, hn2t_]; exact own_s3 hWw3t_ : ([(.int ma0), (.int ma1), (.int ma2)] : List Value).set (w3t_).toNatClampNeg (.int 0) = [(.int n0t_), (.int n1t_), (.int n2t_)])]; exact Va298
    have N298 := Fr.snoc X298 N292 g_r0
    have ZZ299 : n0 ≤ h298.size := Nat.le_trans ZZ293 (Nat.le_of_eq W298.size.symm)
    have KK300 : Keep h0 h298 [r0] := KK294.wr W298 (Or.inl (List.mem_of_getElem? (i := 0) rfl))
    have Fc301 := (Va292.other W298 (Ne.symm (Nat.ne_of_lt (Nat.lt_of_lt_of_le V_r0.lt (Nat.le_of_eq g101.symm)))))
    obtain ⟨cl302, Ar302, qk302, Sz302, Nz302, Hh302, Gg302⟩ := id Fc301
    have hin303 : ¬ ((1 : Int32) < 0 ∨ cl302.slots.size ≤ ((1 : Int32)).toNatClampNeg) := inb_of Sz302 ⟨by decide, by decide⟩
    have hat303 : cl302.slots[((1 : Int32)).toNatClampNeg]? = some (.int d1t_) := Has.at Hh302 hin303 rfl
    have pre304 : ∀ t, Steps p.tables e below (T298.setTop (mkF m 59 #[oR r0, oR r1, oI 3, oR b101, oI 1, oI 1, oI w3t_, oI 3] [(.int d1t_)])) t → Steps p.tables e below (s₁.setTop (mkF m 0 #[oR r0, oR r1, oI 3, oU, oU, oU, oU, oU] [])) t := by
      intro t kt
      refine pre282 _ ?_
      show own_S p e below T128 m 109 #[oR r0, oR r1, oI 3, oR b101, oI 0, oI 0, oI w3t_, oI 2] [] _
      refine XS.iinc X128.here hx rfl (hb hby d1_109) rfl (l' := #[oR r0, oR r1, oI 3, oR b101, oI 0, oI 0, oI w3t_, oI 3]) rfl ?_
      show own_S p e below T128 m 112 #[oR r0, oR r1, oI 3, oR b101, oI 0, oI 0, oI w3t_, oI 3] [] _
      refine XS.goto X128.here hx rfl (pc0 := 112) (pc' := 71) rfl (hb hby d1_112) (by decide) (by decide) ?_
      show own_S p e below T128 m 71 _ [] _
      refine XS.iload X128.here hx rfl (hb hby d1_71) rfl ?_
      show own_S p e below T128 m 73 _ [(.int 3)] _
      refine XS.aloadN X128.here hx rfl (hb hby d1_73) rfl rfl ?_
      show own_S p e below T128 m 74 _ [(.ref r0), (.int 3)] _
      refine X128.arraylength hx (by rw [e128]; exact Ar262.1) (State.isArrayOf_alike hZ.alike Ar262.2.1) (g := (mkF m 74 #[oR r0, oR r1, oI 3, oR b101, oI 0, oI 0, oI w3t_, oI 3] [(.ref r0), (.int 3)])) rfl rfl (hb hby d1_74) _ ?_
      rw [len_of Sz262 Nz262]
      show own_S p e below T128 m 75 _ [(.int 3), (.int 3)] _
      refine XS.icmpYes X128.here hx rfl (pc0 := 75) (pc' := 115) rfl (hb hby d1_75) rfl (flt (by decide : ¬ ((3 : Int32) < (3 : Int32)))).2.1 (by decide) (by decide) ?_
      show own_S p e below T128 m 115 _ [] _
      refine XS.aloadN X128.here hx rfl (hb hby d1_115) rfl rfl ?_
      show own_S p e below T128 m 116 _ [(.ref b101)] _
      refine XS.aloadN X128.here hx rfl (hb hby d1_116) rfl rfl ?_
      show own_S p e below T128 m 117 #[oR r0, oR r1, oI 3, oR b101, oI 0, oI 0, oI w3t_, oI 3] [(.ref r0), (.ref b101)] _
      refine XS.iload X128.here hx rfl (hb hby d1_117) rfl ?_
      show own_S p e below T128 m 119 _ [(.int w3t_), (.ref r0), (.ref b101)] _
      refine X128.iaload hx (j := w3t_) (v := (.int mwt_)) (by rw [e128]; exact Ar262.1) (State.isArrayOf_alike hZ.alike Ar262.2.1) Ar262.2.2 hin283 hat283 (g := (mkF m 119 #[oR r0, oR r1, oI 3, oR b101, oI 0, oI 0, oI w3t_, oI 3] [(.int w3t_), (.ref r0), (.ref b101)])) rfl rfl (hb hby d1_119) _ ?_
      show own_S p e below T128 m 120 _ [(.int mwt_), (.ref b101)] _
      jvm_step X128.here [X128.here.top, hx, (hb hby d1_120), Value.category]
      show own_S p e below T128 m 121 #[oR r0, oR r1, oI 3, oR b101, oI 0, oI 0, oI w3t_, oI 3] [(.int mwt_), (.ref b101), (.int mwt_), (.ref b101)] _
      refine X128.iaload hx (j := mwt_) (v := (.int (own_at cc20 cc21 cc22 mwt_))) (by rw [e128]; exact Ar131.1) (State.isArrayOf_alike hZ.alike Ar131.2.1) Ar131.2.2 hin284 hat284 (g := (mkF m 121 #[oR r0, oR r1, oI 3, oR b101, oI 0, oI 0, oI w3t_, oI 3] [(.int mwt_), (.ref b101), (.int mwt_), (.ref b101)])) rfl rfl (hb hby d1_121) _ ?_
      show own_S p e below T128 m 122 _ [(.int (own_at cc20 cc21 cc22 mwt_)), (.int mwt_), (.ref b101)] _
      refine XS.iconst X128.here hx rfl (hb hby d1_122) ?_
      show own_S p e below T128 m 123 _ [(.int 1), (.int (own_at cc20 cc21 cc22 mwt_)), (.int mwt_), (.ref b101)] _
      refine XS.isub X128.here hx rfl (hb hby d1_123) rfl ?_
      show own_S p e below T128 m 124 _ [(.int ((own_at cc20 cc21 cc22 mwt_) - (1 : Int32))), (.int mwt_), (.ref b101)] _
      refine st286 _ ?_
      show own_S p e below T286 m 125 _ [] _
      refine XS.aloadN X286.here hx rfl (hb hby d1_125) rfl rfl ?_
      show own_S p e below T286 m 126 _ [(.ref b101)] _
      refine XS.iload X286.here hx rfl (hb hby d1_126) rfl ?_
      show own_S p e below T286 m 128 _ [(.int 0), (.ref b101)] _
      jvm_step X286.here [X286.here.top, hx, (hb hby d1_128), Value.category]
      show own_S p e below T286 m 129 #[oR r0, oR r1, oI 3, oR b101, oI 0, oI 0, oI w3t_, oI 3] [(.int 0), (.ref b101), (.int 0), (.ref b101)] _
      refine X286.iaload hx (j := (0 : Int32)) (v := (.int d0t_)) (by rw [e286]; exact Ar289.1) (State.isArrayOf_alike hZ.alike Ar289.2.1) Ar289.2.2 hin290 hat290 (g := (mkF m 129 #[oR r0, oR r1, oI 3, oR b101, oI 0, oI 0, oI w3t_, oI 3] [(.int 0), (.ref b101), (.int 0), (.ref b101)])) rfl rfl (hb hby d1_129) _ ?_
      show own_S p e below T286 m 130 _ [(.int d0t_), (.int 0), (.ref b101)] _
      refine XS.iconst X286.here hx rfl (hb hby d1_130) ?_
      show own_S p e below T286 m 131 _ [(.int 1), (.int d0t_), (.int 0), (.ref b101)] _
      refine XS.iadd X286.here hx rfl (hb hby d1_131) rfl ?_
      show own_S p e below T286 m 132 _ [(.int (d0t_ + (1 : Int32))), (.int 0), (.ref b101)] _
      refine st292 _ ?_
      show own_S p e below T292 m 133 _ [] _
      refine XS.aloadN X292.here hx rfl (hb hby d1_133) rfl rfl ?_
      show own_S p e below T292 m 134 _ [(.ref r0)] _
      refine XS.iload X292.here hx rfl (hb hby d1_134) rfl ?_
      show own_S p e below T292 m 136 _ [(.int w3t_), (.ref r0)] _
      refine XS.iload X292.here hx rfl (hb hby d1_136) rfl ?_
      show own_S p e below T292 m 138 #[oR r0, oR r1, oI 3, oR b101, oI 0, oI 0, oI w3t_, oI 3] [(.int 0), (.int w3t_), (.ref r0)] _
      refine st298 _ ?_
      show own_S p e below T298 m 139 _ [] _
      refine XS.iconst X298.here hx rfl (hb hby d1_139) ?_
      show own_S p e below T298 m 140 _ [(.int 1)] _
      refine XS.istore X298.here hx rfl (hb hby d1_140) rfl (l' := #[oR r0, oR r1, oI 3, oR b101, oI 1, oI 0, oI w3t_, oI 3]) rfl ?_
      show own_S p e below T298 m 142 #[oR r0, oR r1, oI 3, oR b101, oI 1, oI 0, oI w3t_, oI 3] [] _
      refine XS.iinc X298.here hx rfl (hb hby d1_142) rfl (l' := #[oR r0, oR r1, oI 3, oR b101, oI 1, oI 1, oI w3t_, oI 3]) rfl ?_
      show own_S p e below T298 m 145 #[oR r0, oR r1, oI 3, oR b101, oI 1, oI 1, oI w3t_, oI 3] [] _
      refine XS.goto X298.here hx rfl (pc0 := 145) (pc' := 49) rfl (hb hby d1_145) (by decide) (by decide) ?_
      show own_S p e below T298 m 49 _ [] _
      refine XS.iload X298.here hx rfl (hb hby d1_49) rfl ?_
      show own_S p e below T298 m 51 _ [(.int 1)] _
      refine XS.iloadN X298.here hx rfl (hb hby d1_51) rfl ?_
      show own_S p e below T298 m 52 _ [(.int 3), (.int 1)] _
      refine XS.icmpNo X298.here hx rfl (hb hby d1_52) rfl (tlt (by decide : (1 : Int32) < (3 : Int32))).2.1 ?_
      show own_S p e below T298 m 55 _ [] _
      refine XS.aloadN X298.here hx rfl (hb hby d1_55) rfl rfl ?_
      show own_S p e below T298 m 56 _ [(.ref b101)] _
      refine XS.iload X298.here hx rfl (hb hby d1_56) rfl ?_
      show own_S p e below T298 m 58 _ [(.int 1), (.ref b101)] _
      refine X298.iaload hx (j := (1 : Int32)) (v := (.int d1t_)) (by rw [e298]; exact Ar302.1) (State.isArrayOf_alike hZ.alike Ar302.2.1) Ar302.2.2 hin303 hat303 (g := (mkF m 58 #[oR r0, oR r1, oI 3, oR b101, oI 1, oI 1, oI w3t_, oI 3] [(.int 1), (.ref b101)])) rfl rfl (hb hby d1_58) _ ?_
      exact kt
    by_cases he1 : (0 : Int32) < d1t_
    · skip
      have H2 : own_F2 x y z ma0 ma1 ma2 = (⟨(d0t_ + (1 : Int32)), d1t_, d2t_, n0t_, n1t_, n2t_, (1 : Int32)⟩ : own_St) := own_F2p H1 he1
      have hin305 : ¬ ((2 : Int32) < 0 ∨ cl302.slots.size ≤ ((2 : Int32)).toNatClampNeg) := inb_of Sz302 ⟨by decide, by decide⟩
      have hat305 : cl302.slots[((2 : Int32)).toNatClampNeg]? = some (.int d2t_) := Has.at Hh302 hin305 rfl
      have pre306 : ∀ t, Steps p.tables e below (T298.setTop (mkF m 59 #[oR r0, oR r1, oI 3, oR b101, oI 1, oI 2, oI w3t_, oI 3] [(.int d2t_)])) t → Steps p.tables e below (s₁.setTop (mkF m 0 #[oR r0, oR r1, oI 3, oU, oU, oU, oU, oU] [])) t := by
        intro t kt
        refine pre304 _ ?_
        show own_S p e below T298 m 59 #[oR r0, oR r1, oI 3, oR b101, oI 1, oI 1, oI w3t_, oI 3] [(.int d1t_)] _
        refine XS.ifNo X298.here hx rfl (hb hby d1_59) rfl ((if0 _ _).trans (tlt (he1 : (0 : Int32) < d1t_)).2.2.2) ?_
        show own_S p e below T298 m 62 _ [] _
        refine XS.goto X298.here hx rfl (pc0 := 62) (pc' := 142) rfl (hb hby d1_62) (by decide) (by decide) ?_
        show own_S p e below T298 m 142 _ [] _
        refine XS.iinc X298.here hx rfl (hb hby d1_142) rfl (l' := #[oR r0, oR r1, oI 3, oR b101, oI 1, oI 2, oI w3t_, oI 3]) rfl ?_
        show own_S p e below T298 m 145 #[oR r0, oR r1, oI 3, oR b101, oI 1, oI 2, oI w3t_, oI 3] [] _
        refine XS.goto X298.here hx rfl (pc0 := 145) (pc' := 49) rfl (hb hby d1_145) (by decide) (by decide) ?_
        show own_S p e below T298 m 49 _ [] _
        refine XS.iload X298.here hx rfl (hb hby d1_49) rfl ?_
        show own_S p e below T298 m 51 _ [(.int 2)] _
        refine XS.iloadN X298.here hx rfl (hb hby d1_51) rfl ?_
        show own_S p e below T298 m 52 _ [(.int 3), (.int 2)] _
        refine XS.icmpNo X298.here hx rfl (hb hby d1_52) rfl (tlt (by decide : (2 : Int32) < (3 : Int32))).2.1 ?_
        show own_S p e below T298 m 55 _ [] _
        refine XS.aloadN X298.here hx rfl (hb hby d1_55) rfl rfl ?_
        show own_S p e below T298 m 56 _ [(.ref b101)] _
        refine XS.iload X298.here hx rfl (hb hby d1_56) rfl ?_
        show own_S p e below T298 m 58 _ [(.int 2), (.ref b101)] _
        refine X298.iaload hx (j := (2 : Int32)) (v := (.int d2t_)) (by rw [e298]; exact Ar302.1) (State.isArrayOf_alike hZ.alike Ar302.2.1) Ar302.2.2 hin305 hat305 (g := (mkF m 58 #[oR r0, oR r1, oI 3, oR b101, oI 1, oI 2, oI w3t_, oI 3] [(.int 2), (.ref b101)])) rfl rfl (hb hby d1_58) _ ?_
        exact kt
      by_cases he2 : (0 : Int32) < d2t_
      · skip
        have H3 : own_F3 x y z ma0 ma1 ma2 = (⟨(d0t_ + (1 : Int32)), d1t_, d2t_, n0t_, n1t_, n2t_, (1 : Int32)⟩ : own_St) := own_F3p H2 he2
        obtain ⟨fs, hr, hrun, hended, hW, hsame⟩ := X298.leave (v := some (.int 1)) (fun h => by rw [Bd.returns] at h; cases h)
        refine ⟨_, _, pre0 _ (pre306 _ ?_), hrun, hended, _, _, rfl, ?_, ⟨_, rfl⟩, hW, hsame.mono (by decide) (by decide)⟩
        · show own_S p e below T298 m 59 #[oR r0, oR r1, oI 3, oR b101, oI 1, oI 2, oI w3t_, oI 3] [(.int d2t_)] _
          refine XS.ifNo X298.here hx rfl (hb hby d1_59) rfl ((if0 _ _).trans (tlt (he2 : (0 : Int32) < d2t_)).2.2.2) ?_
          show own_S p e below T298 m 62 _ [] _
          refine XS.goto X298.here hx rfl (pc0 := 62) (pc' := 142) rfl (hb hby d1_62) (by decide) (by decide) ?_
          show own_S p e below T298 m 142 _ [] _
          refine XS.iinc X298.here hx rfl (hb hby d1_142) rfl (l' := #[oR r0, oR r1, oI 3, oR b101, oI 1, oI 3, oI w3t_, oI 3]) rfl ?_
          show own_S p e below T298 m 145 #[oR r0, oR r1, oI 3, oR b101, oI 1, oI 3, oI w3t_, oI 3] [] _
          refine XS.goto X298.here hx rfl (pc0 := 145) (pc' := 49) rfl (hb hby d1_145) (by decide) (by decide) ?_
          show own_S p e below T298 m 49 _ [] _
          refine XS.iload X298.here hx rfl (hb hby d1_49) rfl ?_
          show own_S p e below T298 m 51 _ [(.int 3)] _
          refine XS.iloadN X298.here hx rfl (hb hby d1_51) rfl ?_
          show own_S p e below T298 m 52 _ [(.int 3), (.int 3)] _
          refine XS.icmpYes X298.here hx rfl (pc0 := 52) (pc' := 148) rfl (hb hby d1_52) rfl (flt (by decide : ¬ ((3 : Int32) < (3 : Int32)))).2.1 (by decide) (by decide) ?_
          show own_S p e below T298 m 148 _ [] _
          refine XS.iload X298.here hx rfl (hb hby d1_148) rfl ?_
          show own_S p e below T298 m 150 _ [(.int 1)] _
          exact retN X298 hx (t := .boolean) Bd.returns (by simp) (hb hby d1_150) hr
        · show Qf3 Z r0 r1 ka kb ma0 ma1 ma2 f0 f1 f2 x y z h0 n0 _ T298.heap _
          rw [e298]
          exact ⟨n0t_, n1t_, n2t_, (1 : Int32), rfl, N298, KK300, Vs298, (by rw [H3]; exact ⟨rfl, rfl, rfl, rfl⟩)⟩
      · skip
        obtain ⟨w1tft_, hw1tft_⟩ : ∃ zz, zz = own_w1 (own_at (d0t_ + (1 : Int32)) d1t_ d2t_ n0t_) := ⟨_, rfl⟩
        obtain ⟨w2tft_, hw2tft_⟩ : ∃ zz, zz = own_w2 x (own_at (d0t_ + (1 : Int32)) d1t_ d2t_ n1t_) w1tft_ := ⟨_, rfl⟩
        obtain ⟨w3tft_, hw3tft_⟩ : ∃ zz, zz = own_w3 y z (own_at (d0t_ + (1 : Int32)) d1t_ d2t_ n2t_) w2tft_ := ⟨_, rfl⟩
        obtain ⟨mwtft_, hmwtft_⟩ : ∃ zz, zz = own_at n0t_ n1t_ n2t_ w3tft_ := ⟨_, rfl⟩
        obtain ⟨d0tft_, hd0tft_⟩ : ∃ zz, zz = own_p 0 mwtft_ ((own_at (d0t_ + (1 : Int32)) d1t_ d2t_ mwtft_) - (1 : Int32)) (d0t_ + (1 : Int32)) := ⟨_, rfl⟩
        obtain ⟨d1tft_, hd1tft_⟩ : ∃ zz, zz = own_p 1 mwtft_ ((own_at (d0t_ + (1 : Int32)) d1t_ d2t_ mwtft_) - (1 : Int32)) d1t_ := ⟨_, rfl⟩
        obtain ⟨d2tft_, hd2tft_⟩ : ∃ zz, zz = own_p 2 mwtft_ ((own_at (d0t_ + (1 : Int32)) d1t_ d2t_ mwtft_) - (1 : Int32)) d2t_ := ⟨_, rfl⟩
        obtain ⟨n0tft_, hn0tft_⟩ : ∃ zz, zz = own_p 0 w3tft_ (2 : Int32) n0t_ := ⟨_, rfl⟩
        obtain ⟨n1tft_, hn1tft_⟩ : ∃ zz, zz = own_p 1 w3tft_ (2 : Int32) n1t_ := ⟨_, rfl⟩
        obtain ⟨n2tft_, hn2tft_⟩ : ∃ zz, zz = own_p 2 w3tft_ (2 : Int32) n2t_ := ⟨_, rfl⟩
        have hWw3tft_ : (w3tft_ = 0 ∨ w3tft_ = 1 ∨ w3tft_ = 2) := by
          have q := own_L32 x y z ra0 ra1 ra2
          rw [H2, own_worstE hw1tft_ hw2tft_ hw3tft_] at q
          exact q he2
        have hRmwtft_ : (mwtft_ = 0 ∨ mwtft_ = 1 ∨ mwtft_ = 2) := by rw [hmwtft_]; exact own_atr (P := fun i => (i = 0 ∨ i = 1 ∨ i = 2)) hRn0t_ hRn1t_ hRn2t_
        have hRn0tft_ : (n0tft_ = 0 ∨ n0tft_ = 1 ∨ n0tft_ = 2) := by rw [hn0tft_]; exact own_pr (P := fun i => (i = 0 ∨ i = 1 ∨ i = 2)) (by decide) hRn0t_
        have hRn1tft_ : (n1tft_ = 0 ∨ n1tft_ = 1 ∨ n1tft_ = 2) := by rw [hn1tft_]; exact own_pr (P := fun i => (i = 0 ∨ i = 1 ∨ i = 2)) (by decide) hRn1t_
        have hRn2tft_ : (n2tft_ = 0 ∨ n2tft_ = 1 ∨ n2tft_ = 2) := by rw [hn2tft_]; exact own_pr (P := fun i => (i = 0 ∨ i = 1 ∨ i = 2)) (by decide) hRn2t_
        have H3 : own_F3 x y z ma0 ma1 ma2 = (⟨d0tft_, d1tft_, (d2tft_ + (1 : Int32)), n0tft_, n1tft_, n2tft_, (1 : Int32)⟩ : own_St) := own_F3u H2 he2 hw1tft_ hw2tft_ hw3tft_ hmwtft_ hd0tft_ hd1tft_ hd2tft_ hn0tft_ hn1tft_ hn2tft_
        obtain ⟨cl307, Ar307, qk307, Sz307, Nz307, Hh307, Gg307⟩ := id Vs298
        have hin308 : ¬ ((0 : Int32) < 0 ∨ cl307.slots.size ≤ ((0 : Int32)).toNatClampNeg) := inb_of Sz307 ⟨by decide, by decide⟩
        have hat308 : cl307.slots[((0 : Int32)).toNatClampNeg]? = some (.int n0t_) := Has.at Hh307 hin308 rfl
        have hin309 : ¬ (n0t_ < 0 ∨ cl302.slots.size ≤ (n0t_).toNatClampNeg) := inb_of Sz302 (own_b3 hRn0t_)
        have hat309 : cl302.slots[(n0t_).toNatClampNeg]? = some (.int (own_at (d0t_ + (1 : Int32)) d1t_ d2t_ n0t_)) := Has.at Hh302 hin309 (own_g3 hRn0t_)
        have pre310 : ∀ t, Steps p.tables e below (T298.setTop (mkF m 85 #[oR r0, oR r1, oI 3, oR b101, oI 1, oI 2, oI (-1), oI 0] [(.int 1), (.int (own_at (d0t_ + (1 : Int32)) d1t_ d2t_ n0t_))])) t → Steps p.tables e below (s₁.setTop (mkF m 0 #[oR r0, oR r1, oI 3, oU, oU, oU, oU, oU] [])) t := by
          intro t kt
          refine pre306 _ ?_
          show own_S p e below T298 m 59 #[oR r0, oR r1, oI 3, oR b101, oI 1, oI 2, oI w3t_, oI 3] [(.int d2t_)] _
          refine XS.ifYes X298.here hx rfl (pc0 := 59) (pc' := 65) rfl (hb hby d1_59) rfl ((if0 _ _).trans (flt (he2 : ¬ ((0 : Int32) < d2t_))).2.2.2) (by decide) (by decide) ?_
          show own_S p e below T298 m 65 _ [] _
          refine XS.iconst X298.here hx rfl (hb hby d1_65) ?_
          show own_S p e below T298 m 66 _ [(.int (-1))] _
          refine XS.istore X298.here hx rfl (hb hby d1_66) rfl (l' := #[oR r0, oR r1, oI 3, oR b101, oI 1, oI 2, oI (-1), oI 3]) rfl ?_
          show own_S p e below T298 m 68 #[oR r0, oR r1, oI 3, oR b101, oI 1, oI 2, oI (-1), oI 3] [] _
          refine XS.iconst X298.here hx rfl (hb hby d1_68) ?_
          show own_S p e below T298 m 69 _ [(.int 0)] _
          refine XS.istore X298.here hx rfl (hb hby d1_69) rfl (l' := #[oR r0, oR r1, oI 3, oR b101, oI 1, oI 2, oI (-1), oI 0]) rfl ?_
          show own_S p e below T298 m 71 #[oR r0, oR r1, oI 3, oR b101, oI 1, oI 2, oI (-1), oI 0] [] _
          refine XS.iload X298.here hx rfl (hb hby d1_71) rfl ?_
          show own_S p e below T298 m 73 _ [(.int 0)] _
          refine XS.aloadN X298.here hx rfl (hb hby d1_73) rfl rfl ?_
          show own_S p e below T298 m 74 _ [(.ref r0), (.int 0)] _
          refine X298.arraylength hx (by rw [e298]; exact Ar307.1) (State.isArrayOf_alike hZ.alike Ar307.2.1) (g := (mkF m 74 #[oR r0, oR r1, oI 3, oR b101, oI 1, oI 2, oI (-1), oI 0] [(.ref r0), (.int 0)])) rfl rfl (hb hby d1_74) _ ?_
          rw [len_of Sz307 Nz307]
          show own_S p e below T298 m 75 _ [(.int 3), (.int 0)] _
          refine XS.icmpNo X298.here hx rfl (hb hby d1_75) rfl (tlt (by decide : (0 : Int32) < (3 : Int32))).2.1 ?_
          show own_S p e below T298 m 78 _ [] _
          refine XS.aloadN X298.here hx rfl (hb hby d1_78) rfl rfl ?_
          show own_S p e below T298 m 79 _ [(.ref b101)] _
          refine XS.aloadN X298.here hx rfl (hb hby d1_79) rfl rfl ?_
          show own_S p e below T298 m 80 _ [(.ref r0), (.ref b101)] _
          refine XS.iload X298.here hx rfl (hb hby d1_80) rfl ?_
          show own_S p e below T298 m 82 #[oR r0, oR r1, oI 3, oR b101, oI 1, oI 2, oI (-1), oI 0] [(.int 0), (.ref r0), (.ref b101)] _
          refine X298.iaload hx (j := (0 : Int32)) (v := (.int n0t_)) (by rw [e298]; exact Ar307.1) (State.isArrayOf_alike hZ.alike Ar307.2.1) Ar307.2.2 hin308 hat308 (g := (mkF m 82 #[oR r0, oR r1, oI 3, oR b101, oI 1, oI 2, oI (-1), oI 0] [(.int 0), (.ref r0), (.ref b101)])) rfl rfl (hb hby d1_82) _ ?_
          show own_S p e below T298 m 83 _ [(.int n0t_), (.ref b101)] _
          refine X298.iaload hx (j := n0t_) (v := (.int (own_at (d0t_ + (1 : Int32)) d1t_ d2t_ n0t_))) (by rw [e298]; exact Ar302.1) (State.isArrayOf_alike hZ.alike Ar302.2.1) Ar302.2.2 hin309 hat309 (g := (mkF m 83 #[oR r0, oR r1, oI 3, oR b101, oI 1, oI 2, oI (-1), oI 0] [(.int n0t_), (.ref b101)])) rfl rfl (hb hby d1_83) _ ?_
          show own_S p e below T298 m 84 _ [(.int (own_at (d0t_ + (1 : Int32)) d1t_ d2t_ n0t_))] _
          refine XS.iconst X298.here hx rfl (hb hby d1_84) ?_
          exact kt
        have pre311 : ∀ t, Steps p.tables e below (T298.setTop (mkF m 109 #[oR r0, oR r1, oI 3, oR b101, oI 1, oI 2, oI w1tft_, oI 0] [])) t → Steps p.tables e below (s₁.setTop (mkF m 0 #[oR r0, oR r1, oI 3, oU, oU, oU, oU, oU] [])) t := by
          intro t kt
          refine pre310 _ ?_
          show own_S p e below T298 m 85 #[oR r0, oR r1, oI 3, oR b101, oI 1, oI 2, oI (-1), oI 0] [(.int 1), (.int (own_at (d0t_ + (1 : Int32)) d1t_ d2t_ n0t_))] _
          by_cases hj : (1 : Int32) < (own_at (d0t_ + (1 : Int32)) d1t_ d2t_ n0t_)
          · skip
            refine XS.icmpNo X298.here hx rfl (hb hby d1_85) rfl (tlt (hj : (1 : Int32) < (own_at (d0t_ + (1 : Int32)) d1t_ d2t_ n0t_))).2.2.2 ?_
            show own_S p e below T298 m 88 #[oR r0, oR r1, oI 3, oR b101, oI 1, oI 2, oI (-1), oI 0] [] _
            refine XS.iload X298.here hx rfl (hb hby d1_88) rfl ?_
            show own_S p e below T298 m 90 _ [(.int (-1))] _
            refine XS.ifYes X298.here hx rfl (pc0 := 90) (pc' := 105) rfl (hb hby d1_90) rfl ((if0 _ _).trans (tlt (by decide : (-1 : Int32) < (0 : Int32))).1) (by decide) (by decide) ?_
            show own_S p e below T298 m 105 _ [] _
            refine XS.iload X298.here hx rfl (hb hby d1_105) rfl ?_
            show own_S p e below T298 m 107 _ [(.int 0)] _
            refine XS.istore X298.here hx rfl (hb hby d1_107) rfl (l' := #[oR r0, oR r1, oI 3, oR b101, oI 1, oI 2, oI 0, oI 0]) rfl ?_
            rw [(hw1tft_.trans (if_pos hj) : w1tft_ = (0 : Int32))] at kt
            exact kt
          · skip
            refine XS.icmpYes X298.here hx rfl (pc0 := 85) (pc' := 109) rfl (hb hby d1_85) rfl (flt (hj : ¬ ((1 : Int32) < (own_at (d0t_ + (1 : Int32)) d1t_ d2t_ n0t_)))).2.2.2 (by decide) (by decide) ?_
            rw [(hw1tft_.trans (if_neg hj) : w1tft_ = (-1 : Int32))] at kt
            exact kt
        have hin312 : ¬ ((1 : Int32) < 0 ∨ cl307.slots.size ≤ ((1 : Int32)).toNatClampNeg) := inb_of Sz307 ⟨by decide, by decide⟩
        have hat312 : cl307.slots[((1 : Int32)).toNatClampNeg]? = some (.int n1t_) := Has.at Hh307 hin312 rfl
        have hin313 : ¬ (n1t_ < 0 ∨ cl302.slots.size ≤ (n1t_).toNatClampNeg) := inb_of Sz302 (own_b3 hRn1t_)
        have hat313 : cl302.slots[(n1t_).toNatClampNeg]? = some (.int (own_at (d0t_ + (1 : Int32)) d1t_ d2t_ n1t_)) := Has.at Hh302 hin313 (own_g3 hRn1t_)
        have pre314 : ∀ t, Steps p.tables e below (T298.setTop (mkF m 85 #[oR r0, oR r1, oI 3, oR b101, oI 1, oI 2, oI w1tft_, oI 1] [(.int 1), (.int (own_at (d0t_ + (1 : Int32)) d1t_ d2t_ n1t_))])) t → Steps p.tables e below (s₁.setTop (mkF m 0 #[oR r0, oR r1, oI 3, oU, oU, oU, oU, oU] [])) t := by
          intro t kt
          refine pre311 _ ?_
          show own_S p e below T298 m 109 #[oR r0, oR r1, oI 3, oR b101, oI 1, oI 2, oI w1tft_, oI 0] [] _
          refine XS.iinc X298.here hx rfl (hb hby d1_109) rfl (l' := #[oR r0, oR r1, oI 3, oR b101, oI 1, oI 2, oI w1tft_, oI 1]) rfl ?_
          show own_S p e below T298 m 112 #[oR r0, oR r1, oI 3, oR b101, oI 1, oI 2, oI w1tft_, oI 1] [] _
          refine XS.goto X298.here hx rfl (pc0 := 112) (pc' := 71) rfl (hb hby d1_112) (by decide) (by decide) ?_
          show own_S p e below T298 m 71 _ [] _
          refine XS.iload X298.here hx rfl (hb hby d1_71) rfl ?_
          show own_S p e below T298 m 73 _ [(.int 1)] _
          refine XS.aloadN X298.here hx rfl (hb hby d1_73) rfl rfl ?_
          show own_S p e below T298 m 74 _ [(.ref r0), (.int 1)] _
          refine X298.arraylength hx (by rw [e298]; exact Ar307.1) (State.isArrayOf_alike hZ.alike Ar307.2.1) (g := (mkF m 74 #[oR r0, oR r1, oI 3, oR b101, oI 1, oI 2, oI w1tft_, oI 1] [(.ref r0), (.int 1)])) rfl rfl (hb hby d1_74) _ ?_
          rw [len_of Sz307 Nz307]
          show own_S p e below T298 m 75 _ [(.int 3), (.int 1)] _
          refine XS.icmpNo X298.here hx rfl (hb hby d1_75) rfl (tlt (by decide : (1 : Int32) < (3 : Int32))).2.1 ?_
          show own_S p e below T298 m 78 _ [] _
          refine XS.aloadN X298.here hx rfl (hb hby d1_78) rfl rfl ?_
          show own_S p e below T298 m 79 _ [(.ref b101)] _
          refine XS.aloadN X298.here hx rfl (hb hby d1_79) rfl rfl ?_
          show own_S p e below T298 m 80 #[oR r0, oR r1, oI 3, oR b101, oI 1, oI 2, oI w1tft_, oI 1] [(.ref r0), (.ref b101)] _
          refine XS.iload X298.here hx rfl (hb hby d1_80) rfl ?_
          show own_S p e below T298 m 82 _ [(.int 1), (.ref r0), (.ref b101)] _
          refine X298.iaload hx (j := (1 : Int32)) (v := (.int n1t_)) (by rw [e298]; exact Ar307.1) (State.isArrayOf_alike hZ.alike Ar307.2.1) Ar307.2.2 hin312 hat312 (g := (mkF m 82 #[oR r0, oR r1, oI 3, oR b101, oI 1, oI 2, oI w1tft_, oI 1] [(.int 1), (.ref r0), (.ref b101)])) rfl rfl (hb hby d1_82) _ ?_
          show own_S p e below T298 m 83 _ [(.int n1t_), (.ref b101)] _
          refine X298.iaload hx (j := n1t_) (v := (.int (own_at (d0t_ + (1 : Int32)) d1t_ d2t_ n1t_))) (by rw [e298]; exact Ar302.1) (State.isArrayOf_alike hZ.alike Ar302.2.1) Ar302.2.2 hin313 hat313 (g := (mkF m 83 #[oR r0, oR r1, oI 3, oR b101, oI 1, oI 2, oI w1tft_, oI 1] [(.int n1t_), (.ref b101)])) rfl rfl (hb hby d1_83) _ ?_
          show own_S p e below T298 m 84 _ [(.int (own_at (d0t_ + (1 : Int32)) d1t_ d2t_ n1t_))] _
          refine XS.iconst X298.here hx rfl (hb hby d1_84) ?_
          exact kt
        have pre319 : ∀ t, Steps p.tables e below (T298.setTop (mkF m 109 #[oR r0, oR r1, oI 3, oR b101, oI 1, oI 2, oI w2tft_, oI 1] [])) t → Steps p.tables e below (s₁.setTop (mkF m 0 #[oR r0, oR r1, oI 3, oU, oU, oU, oU, oU] [])) t := by
          intro t kt
          refine pre314 _ ?_
          show own_S p e below T298 m 85 #[oR r0, oR r1, oI 3, oR b101, oI 1, oI 2, oI w1tft_, oI 1] [(.int 1), (.int (own_at (d0t_ + (1 : Int32)) d1t_ d2t_ n1t_))] _
          by_cases hj : (1 : Int32) < (own_at (d0t_ + (1 : Int32)) d1t_ d2t_ n1t_)
          · skip
            refine XS.icmpNo X298.here hx rfl (hb hby d1_85) rfl (tlt (hj : (1 : Int32) < (own_at (d0t_ + (1 : Int32)) d1t_ d2t_ n1t_))).2.2.2 ?_
            show own_S p e below T298 m 88 #[oR r0, oR r1, oI 3, oR b101, oI 1, oI 2, oI w1tft_, oI 1] [] _
            refine XS.iload X298.here hx rfl (hb hby d1_88) rfl ?_
            show own_S p e below T298 m 90 _ [(.int w1tft_)] _
            by_cases hn : w1tft_ < (0 : Int32)
            · skip
              refine XS.ifYes X298.here hx rfl (pc0 := 90) (pc' := 105) rfl (hb hby d1_90) rfl ((if0 _ _).trans (tlt (hn : w1tft_ < (0 : Int32))).1) (by decide) (by decide) ?_
              show own_S p e below T298 m 105 #[oR r0, oR r1, oI 3, oR b101, oI 1, oI 2, oI w1tft_, oI 1] [] _
              refine XS.iload X298.here hx rfl (hb hby d1_105) rfl ?_
              show own_S p e below T298 m 107 _ [(.int 1)] _
              refine XS.istore X298.here hx rfl (hb hby d1_107) rfl (l' := #[oR r0, oR r1, oI 3, oR b101, oI 1, oI 2, oI 1, oI 1]) rfl ?_
              rw [(hw2tft_.trans (own_w2TT hj hn) : w2tft_ = (1 : Int32))] at kt
              exact kt
            · skip
              have Fc315 := (((((((V_r1.ext E101).other W110 (Nat.ne_of_lt (Nat.lt_of_lt_of_le V_r1.lt (Nat.le_of_eq g101.symm)))).other W119 (Nat.ne_of_lt (Nat.lt_of_lt_of_le V_r1.lt (Nat.le_of_eq g101.symm)))).other W128 (Nat.ne_of_lt (Nat.lt_of_lt_of_le V_r1.lt (Nat.le_of_eq g101.symm)))).other W286 (Nat.ne_of_lt (Nat.lt_of_lt_of_le V_r1.lt (Nat.le_of_eq g101.symm)))).other W292 (Nat.ne_of_lt (Nat.lt_of_lt_of_le V_r1.lt (Nat.le_of_eq g101.symm)))).other W298 ne_r1_r0)
              obtain ⟨cl316, Ar316, qk316, Sz316, Nz316, Hh316, Gg316⟩ := id Fc315
              have hin317 : ¬ ((1 : Int32) < 0 ∨ cl316.slots.size ≤ ((1 : Int32)).toNatClampNeg) := inb_of Sz316 ⟨by decide, by decide⟩
              have hat317 : cl316.slots[((1 : Int32)).toNatClampNeg]? = some (.double f1) := Has.at Hh316 hin317 rfl
              have hin318 : ¬ (w1tft_ < 0 ∨ cl316.slots.size ≤ (w1tft_).toNatClampNeg) := inb_of Sz316 (own_b00 (own_w1z hw1tft_ hn))
              have hat318 : cl316.slots[(w1tft_).toNatClampNeg]? = some (.double f0) := Has.at Hh316 hin318 (own_gd0 (own_w1z hw1tft_ hn))
              refine XS.ifNo X298.here hx rfl (hb hby d1_90) rfl ((if0 _ _).trans (flt (hn : ¬ (w1tft_ < (0 : Int32)))).1) ?_
              show own_S p e below T298 m 93 #[oR r0, oR r1, oI 3, oR b101, oI 1, oI 2, oI w1tft_, oI 1] [] _
              refine XS.aloadN X298.here hx rfl (hb hby d1_93) rfl rfl ?_
              show own_S p e below T298 m 94 _ [(.ref r1)] _
              refine XS.iload X298.here hx rfl (hb hby d1_94) rfl ?_
              show own_S p e below T298 m 96 _ [(.int 1), (.ref r1)] _
              refine X298.daload hx (j := (1 : Int32)) (v := (.double f1)) (by rw [e298]; exact Ar316.1) (State.isArrayOf_alike hZ.alike Ar316.2.1) Ar316.2.2 hin317 hat317 (g := (mkF m 96 #[oR r0, oR r1, oI 3, oR b101, oI 1, oI 2, oI w1tft_, oI 1] [(.int 1), (.ref r1)])) rfl rfl (hb hby d1_96) _ ?_
              show own_S p e below T298 m 97 _ [(.double f1)] _
              refine XS.aloadN X298.here hx rfl (hb hby d1_97) rfl rfl ?_
              show own_S p e below T298 m 98 _ [(.ref r1), (.double f1)] _
              refine XS.iload X298.here hx rfl (hb hby d1_98) rfl ?_
              show own_S p e below T298 m 100 _ [(.int w1tft_), (.ref r1), (.double f1)] _
              refine X298.daload hx (j := w1tft_) (v := (.double f0)) (by rw [e298]; exact Ar316.1) (State.isArrayOf_alike hZ.alike Ar316.2.1) Ar316.2.2 hin318 hat318 (g := (mkF m 100 #[oR r0, oR r1, oI 3, oR b101, oI 1, oI 2, oI w1tft_, oI 1] [(.int w1tft_), (.ref r1), (.double f1)])) rfl rfl (hb hby d1_100) _ ?_
              show own_S p e below T298 m 101 _ [(.double f0), (.double f1)] _
              refine XS.dcmpS X298.here hx rfl (v := (cmpValue (FP.dcmp f1 f0) .g)) (hb hby d1_101) rfl rfl ?_
              show own_S p e below T298 m 102 #[oR r0, oR r1, oI 3, oR b101, oI 1, oI 2, oI w1tft_, oI 1] [(.int (cmpValue (FP.dcmp f1 f0) .g))] _
              by_cases hd : (cmpValue (FP.dcmp f1 f0) .g) < (0 : Int32)
              · skip
                refine XS.ifNo X298.here hx rfl (hb hby d1_102) rfl ((if0 _ _).trans (tlt (hd : (cmpValue (FP.dcmp f1 f0) .g) < (0 : Int32))).2.1) ?_
                show own_S p e below T298 m 105 #[oR r0, oR r1, oI 3, oR b101, oI 1, oI 2, oI w1tft_, oI 1] [] _
                refine XS.iload X298.here hx rfl (hb hby d1_105) rfl ?_
                show own_S p e below T298 m 107 _ [(.int 1)] _
                refine XS.istore X298.here hx rfl (hb hby d1_107) rfl (l' := #[oR r0, oR r1, oI 3, oR b101, oI 1, oI 2, oI 1, oI 1]) rfl ?_
                rw [(hw2tft_.trans (own_w2TFT hj hn (cx.mp hd)) : w2tft_ = (1 : Int32))] at kt
                exact kt
              · skip
                refine XS.ifYes X298.here hx rfl (pc0 := 102) (pc' := 109) rfl (hb hby d1_102) rfl ((if0 _ _).trans (flt (hd : ¬ ((cmpValue (FP.dcmp f1 f0) .g) < (0 : Int32)))).2.1) (by decide) (by decide) ?_
                rw [(hw2tft_.trans (own_w2TFF hj hn (fun q => hd (cx.mpr q))) : w2tft_ = w1tft_)] at kt
                exact kt
          · skip
            refine XS.icmpYes X298.here hx rfl (pc0 := 85) (pc' := 109) rfl (hb hby d1_85) rfl (flt (hj : ¬ ((1 : Int32) < (own_at (d0t_ + (1 : Int32)) d1t_ d2t_ n1t_)))).2.2.2 (by decide) (by decide) ?_
            rw [(hw2tft_.trans (own_w2F hj) : w2tft_ = w1tft_)] at kt
            exact kt
        have hin320 : ¬ ((2 : Int32) < 0 ∨ cl307.slots.size ≤ ((2 : Int32)).toNatClampNeg) := inb_of Sz307 ⟨by decide, by decide⟩
        have hat320 : cl307.slots[((2 : Int32)).toNatClampNeg]? = some (.int n2t_) := Has.at Hh307 hin320 rfl
        have hin321 : ¬ (n2t_ < 0 ∨ cl302.slots.size ≤ (n2t_).toNatClampNeg) := inb_of Sz302 (own_b3 hRn2t_)
        have hat321 : cl302.slots[(n2t_).toNatClampNeg]? = some (.int (own_at (d0t_ + (1 : Int32)) d1t_ d2t_ n2t_)) := Has.at Hh302 hin321 (own_g3 hRn2t_)
        have pre322 : ∀ t, Steps p.tables e below (T298.setTop (mkF m 85 #[oR r0, oR r1, oI 3, oR b101, oI 1, oI 2, oI w2tft_, oI 2] [(.int 1), (.int (own_at (d0t_ + (1 : Int32)) d1t_ d2t_ n2t_))])) t → Steps p.tables e below (s₁.setTop (mkF m 0 #[oR r0, oR r1, oI 3, oU, oU, oU, oU, oU] [])) t := by
          intro t kt
          refine pre319 _ ?_
          show own_S p e below T298 m 109 #[oR r0, oR r1, oI 3, oR b101, oI 1, oI 2, oI w2tft_, oI 1] [] _
          refine XS.iinc X298.here hx rfl (hb hby d1_109) rfl (l' := #[oR r0, oR r1, oI 3, oR b101, oI 1, oI 2, oI w2tft_, oI 2]) rfl ?_
          show own_S p e below T298 m 112 #[oR r0, oR r1, oI 3, oR b101, oI 1, oI 2, oI w2tft_, oI 2] [] _
          refine XS.goto X298.here hx rfl (pc0 := 112) (pc' := 71) rfl (hb hby d1_112) (by decide) (by decide) ?_
          show own_S p e below T298 m 71 _ [] _
          refine XS.iload X298.here hx rfl (hb hby d1_71) rfl ?_
          show own_S p e below T298 m 73 _ [(.int 2)] _
          refine XS.aloadN X298.here hx rfl (hb hby d1_73) rfl rfl ?_
          show own_S p e below T298 m 74 _ [(.ref r0), (.int 2)] _
          refine X298.arraylength hx (by rw [e298]; exact Ar307.1) (State.isArrayOf_alike hZ.alike Ar307.2.1) (g := (mkF m 74 #[oR r0, oR r1, oI 3, oR b101, oI 1, oI 2, oI w2tft_, oI 2] [(.ref r0), (.int 2)])) rfl rfl (hb hby d1_74) _ ?_
          rw [len_of Sz307 Nz307]
          show own_S p e below T298 m 75 _ [(.int 3), (.int 2)] _
          refine XS.icmpNo X298.here hx rfl (hb hby d1_75) rfl (tlt (by decide : (2 : Int32) < (3 : Int32))).2.1 ?_
          show own_S p e below T298 m 78 _ [] _
          refine XS.aloadN X298.here hx rfl (hb hby d1_78) rfl rfl ?_
          show own_S p e below T298 m 79 _ [(.ref b101)] _
          refine XS.aloadN X298.here hx rfl (hb hby d1_79) rfl rfl ?_
          show own_S p e below T298 m 80 #[oR r0, oR r1, oI 3, oR b101, oI 1, oI 2, oI w2tft_, oI 2] [(.ref r0), (.ref b101)] _
          refine XS.iload X298.here hx rfl (hb hby d1_80) rfl ?_
          show own_S p e below T298 m 82 _ [(.int 2), (.ref r0), (.ref b101)] _
          refine X298.iaload hx (j := (2 : Int32)) (v := (.int n2t_)) (by rw [e298]; exact Ar307.1) (State.isArrayOf_alike hZ.alike Ar307.2.1) Ar307.2.2 hin320 hat320 (g := (mkF m 82 #[oR r0, oR r1, oI 3, oR b101, oI 1, oI 2, oI w2tft_, oI 2] [(.int 2), (.ref r0), (.ref b101)])) rfl rfl (hb hby d1_82) _ ?_
          show own_S p e below T298 m 83 _ [(.int n2t_), (.ref b101)] _
          refine X298.iaload hx (j := n2t_) (v := (.int (own_at (d0t_ + (1 : Int32)) d1t_ d2t_ n2t_))) (by rw [e298]; exact Ar302.1) (State.isArrayOf_alike hZ.alike Ar302.2.1) Ar302.2.2 hin321 hat321 (g := (mkF m 83 #[oR r0, oR r1, oI 3, oR b101, oI 1, oI 2, oI w2tft_, oI 2] [(.int n2t_), (.ref b101)])) rfl rfl (hb hby d1_83) _ ?_
          show own_S p e below T298 m 84 _ [(.int (own_at (d0t_ + (1 : Int32)) d1t_ d2t_ n2t_))] _
          refine XS.iconst X298.here hx rfl (hb hby d1_84) ?_
          exact kt
        have pre327 : ∀ t, Steps p.tables e below (T298.setTop (mkF m 109 #[oR r0, oR r1, oI 3, oR b101, oI 1, oI 2, oI w3tft_, oI 2] [])) t → Steps p.tables e below (s₁.setTop (mkF m 0 #[oR r0, oR r1, oI 3, oU, oU, oU, oU, oU] [])) t := by
          intro t kt
          refine pre322 _ ?_
          show own_S p e below T298 m 85 #[oR r0, oR r1, oI 3, oR b101, oI 1, oI 2, oI w2tft_, oI 2] [(.int 1), (.int (own_at (d0t_ + (1 : Int32)) d1t_ d2t_ n2t_))] _
          by_cases hj : (1 : Int32) < (own_at (d0t_ + (1 : Int32)) d1t_ d2t_ n2t_)
          · skip
            refine XS.icmpNo X298.here hx rfl (hb hby d1_85) rfl (tlt (hj : (1 : Int32) < (own_at (d0t_ + (1 : Int32)) d1t_ d2t_ n2t_))).2.2.2 ?_
            show own_S p e below T298 m 88 #[oR r0, oR r1, oI 3, oR b101, oI 1, oI 2, oI w2tft_, oI 2] [] _
            refine XS.iload X298.here hx rfl (hb hby d1_88) rfl ?_
            show own_S p e below T298 m 90 _ [(.int w2tft_)] _
            by_cases hn : w2tft_ < (0 : Int32)
            · skip
              refine XS.ifYes X298.here hx rfl (pc0 := 90) (pc' := 105) rfl (hb hby d1_90) rfl ((if0 _ _).trans (tlt (hn : w2tft_ < (0 : Int32))).1) (by decide) (by decide) ?_
              show own_S p e below T298 m 105 #[oR r0, oR r1, oI 3, oR b101, oI 1, oI 2, oI w2tft_, oI 2] [] _
              refine XS.iload X298.here hx rfl (hb hby d1_105) rfl ?_
              show own_S p e below T298 m 107 _ [(.int 2)] _
              refine XS.istore X298.here hx rfl (hb hby d1_107) rfl (l' := #[oR r0, oR r1, oI 3, oR b101, oI 1, oI 2, oI 2, oI 2]) rfl ?_
              rw [(hw3tft_.trans (own_w3TT hj hn) : w3tft_ = (2 : Int32))] at kt
              exact kt
            · skip
              have Fc323 := (((((((V_r1.ext E101).other W110 (Nat.ne_of_lt (Nat.lt_of_lt_of_le V_r1.lt (Nat.le_of_eq g101.symm)))).other W119 (Nat.ne_of_lt (Nat.lt_of_lt_of_le V_r1.lt (Nat.le_of_eq g101.symm)))).other W128 (Nat.ne_of_lt (Nat.lt_of_lt_of_le V_r1.lt (Nat.le_of_eq g101.symm)))).other W286 (Nat.ne_of_lt (Nat.lt_of_lt_of_le V_r1.lt (Nat.le_of_eq g101.symm)))).other W292 (Nat.ne_of_lt (Nat.lt_of_lt_of_le V_r1.lt (Nat.le_of_eq g101.symm)))).other W298 ne_r1_r0)
              obtain ⟨cl324, Ar324, qk324, Sz324, Nz324, Hh324, Gg324⟩ := id Fc323
              have hin325 : ¬ ((2 : Int32) < 0 ∨ cl324.slots.size ≤ ((2 : Int32)).toNatClampNeg) := inb_of Sz324 ⟨by decide, by decide⟩
              have hat325 : cl324.slots[((2 : Int32)).toNatClampNeg]? = some (.double f2) := Has.at Hh324 hin325 rfl
              have hin326 : ¬ (w2tft_ < 0 ∨ cl324.slots.size ≤ (w2tft_).toNatClampNeg) := inb_of Sz324 (own_b01 (own_w2z hw1tft_ hw2tft_ hn))
              have hat326 : cl324.slots[(w2tft_).toNatClampNeg]? = some (.double (own_atD f0 f1 w2tft_)) := Has.at Hh324 hin326 (own_gd (own_w2z hw1tft_ hw2tft_ hn))
              refine XS.ifNo X298.here hx rfl (hb hby d1_90) rfl ((if0 _ _).trans (flt (hn : ¬ (w2tft_ < (0 : Int32)))).1) ?_
              show own_S p e below T298 m 93 #[oR r0, oR r1, oI 3, oR b101, oI 1, oI 2, oI w2tft_, oI 2] [] _
              refine XS.aloadN X298.here hx rfl (hb hby d1_93) rfl rfl ?_
              show own_S p e below T298 m 94 _ [(.ref r1)] _
              refine XS.iload X298.here hx rfl (hb hby d1_94) rfl ?_
              show own_S p e below T298 m 96 _ [(.int 2), (.ref r1)] _
              refine X298.daload hx (j := (2 : Int32)) (v := (.double f2)) (by rw [e298]; exact Ar324.1) (State.isArrayOf_alike hZ.alike Ar324.2.1) Ar324.2.2 hin325 hat325 (g := (mkF m 96 #[oR r0, oR r1, oI 3, oR b101, oI 1, oI 2, oI w2tft_, oI 2] [(.int 2), (.ref r1)])) rfl rfl (hb hby d1_96) _ ?_
              show own_S p e below T298 m 97 _ [(.double f2)] _
              refine XS.aloadN X298.here hx rfl (hb hby d1_97) rfl rfl ?_
              show own_S p e below T298 m 98 _ [(.ref r1), (.double f2)] _
              refine XS.iload X298.here hx rfl (hb hby d1_98) rfl ?_
              show own_S p e below T298 m 100 _ [(.int w2tft_), (.ref r1), (.double f2)] _
              refine X298.daload hx (j := w2tft_) (v := (.double (own_atD f0 f1 w2tft_))) (by rw [e298]; exact Ar324.1) (State.isArrayOf_alike hZ.alike Ar324.2.1) Ar324.2.2 hin326 hat326 (g := (mkF m 100 #[oR r0, oR r1, oI 3, oR b101, oI 1, oI 2, oI w2tft_, oI 2] [(.int w2tft_), (.ref r1), (.double f2)])) rfl rfl (hb hby d1_100) _ ?_
              show own_S p e below T298 m 101 _ [(.double (own_atD f0 f1 w2tft_)), (.double f2)] _
              refine XS.dcmpS X298.here hx rfl (v := (cmpValue (FP.dcmp f2 (own_atD f0 f1 w2tft_)) .g)) (hb hby d1_101) rfl rfl ?_
              show own_S p e below T298 m 102 #[oR r0, oR r1, oI 3, oR b101, oI 1, oI 2, oI w2tft_, oI 2] [(.int (cmpValue (FP.dcmp f2 (own_atD f0 f1 w2tft_)) .g))] _
              by_cases hd : (cmpValue (FP.dcmp f2 (own_atD f0 f1 w2tft_)) .g) < (0 : Int32)
              · skip
                refine XS.ifNo X298.here hx rfl (hb hby d1_102) rfl ((if0 _ _).trans (tlt (hd : (cmpValue (FP.dcmp f2 (own_atD f0 f1 w2tft_)) .g) < (0 : Int32))).2.1) ?_
                show own_S p e below T298 m 105 #[oR r0, oR r1, oI 3, oR b101, oI 1, oI 2, oI w2tft_, oI 2] [] _
                refine XS.iload X298.here hx rfl (hb hby d1_105) rfl ?_
                show own_S p e below T298 m 107 _ [(.int 2)] _
                refine XS.istore X298.here hx rfl (hb hby d1_107) rfl (l' := #[oR r0, oR r1, oI 3, oR b101, oI 1, oI 2, oI 2, oI 2]) rfl ?_
                rw [(hw3tft_.trans (own_w3TFT hj hn ((own_cyz (own_w2z hw1tft_ hw2tft_ hn) cy cz).mp hd)) : w3tft_ = (2 : Int32))] at kt
                exact kt
              · skip
                refine XS.ifYes X298.here hx rfl (pc0 := 102) (pc' := 109) rfl (hb hby d1_102) rfl ((if0 _ _).trans (flt (hd : ¬ ((cmpValue (FP.dcmp f2 (own_atD f0 f1 w2tft_)) .g) < (0 : Int32)))).2.1) (by decide) (by decide) ?_
                rw [(hw3tft_.trans (own_w3TFF hj hn (fun q => hd ((own_cyz (own_w2z hw1tft_ hw2tft_ hn) cy cz).mpr q))) : w3tft_ = w2tft_)] at kt
                exact kt
          · skip
            refine XS.icmpYes X298.here hx rfl (pc0 := 85) (pc' := 109) rfl (hb hby d1_85) rfl (flt (hj : ¬ ((1 : Int32) < (own_at (d0t_ + (1 : Int32)) d1t_ d2t_ n2t_)))).2.2.2 (by decide) (by decide) ?_
            rw [(hw3tft_.trans (own_w3F hj) : w3tft_ = w2tft_)] at kt
            exact kt
        have hin328 : ¬ (w3tft_ < 0 ∨ cl307.slots.size ≤ (w3tft_).toNatClampNeg) := inb_of Sz307 (own_b3 hWw3tft_)
        have hat328 : cl307.slots[(w3tft_).toNatClampNeg]? = some (.int mwtft_) := Has.at Hh307 hin328 (by rw [hmwtft_]; exact own_g3 hWw3tft_)
        have hin329 : ¬ (mwtft_ < 0 ∨ cl302.slots.size ≤ (mwtft_).toNatClampNeg) := inb_of Sz302 (own_b3 hRmwtft_)
        have hat329 : cl302.slots[(mwtft_).toNatClampNeg]? = some (.int (own_at (d0t_ + (1 : Int32)) d1t_ d2t_ mwtft_)) := Has.at Hh302 hin329 (own_g3 hRmwtft_)
        have hin330 : ¬ (mwtft_ < 0 ∨ cl302.slots.size ≤ (mwtft_).toNatClampNeg) := inb_of Sz302 (own_b3 hRmwtft_)
        obtain ⟨T331, h331, X331, e331, W331, st331⟩ := stI X298 hx hZ e298 Ar302 (j := mwtft_) hin330 (g := (mkF m 124 #[oR r0, oR r1, oI 3, oR b101, oI 1, oI 2, oI w3tft_, oI 3] [(.int ((own_at (d0t_ + (1 : Int32)) d1t_ d2t_ mwtft_) - (1 : Int32))), (.int mwtft_), (.ref b101)])) rfl rfl (hb hby d1_124)
        have Va331 := Arv.set Ar302 qk302 Sz302 Nz302 Hh302 Gg302 rfl W331 (mwtft_).toNatClampNeg rfl (own_l3 hRmwtft_)
        have Vs331 : Arv Z h331 b101 k101 .int (3 : Int32) [(.int d0tft_), (.int d1tft_), (.int d2tft_)] (.int 0) := by rw [← (by rw [hd0tft_, hd1tft_, hd2tft_]; exact own_s3 hRmwtft_ : ([(.int (d0t_ + (1 : Int32))), (.int d1t_), (.int d2t_)] : List Value).set (mwtft_).toNatClampNeg (.int ((own_at (d0t_ + (1 : Int32)) d1t_ d2t_ mwtft_) - (1 : Int32))) = [(.int d0tft_), (.int d1tft_), (.int d2tft_)])]; exact Va331
        have N331 := Fr.snoc X331 N298 g_b101
        have ZZ332 : n0 ≤ h331.size := Nat.le_trans ZZ299 (Nat.le_of_eq W331.size.symm)
        have KK333 : Keep h0 h331 [r0] := KK300.wr W331 (Or.inr sz_b101)
        obtain ⟨cl334, Ar334, qk334, Sz334, Nz334, Hh334, Gg334⟩ := id Vs331
        have hin335 : ¬ ((2 : Int32) < 0 ∨ cl334.slots.size ≤ ((2 : Int32)).toNatClampNeg) := inb_of Sz334 ⟨by decide, by decide⟩
        have hat335 : cl334.slots[((2 : Int32)).toNatClampNeg]? = some (.int d2tft_) := Has.at Hh334 hin335 rfl
        have hin336 : ¬ ((2 : Int32) < 0 ∨ cl334.slots.size ≤ ((2 : Int32)).toNatClampNeg) := inb_of Sz334 ⟨by decide, by decide⟩
        obtain ⟨T337, h337, X337, e337, W337, st337⟩ := stI X331 hx hZ e331 Ar334 (j := (2 : Int32)) hin336 (g := (mkF m 132 #[oR r0, oR r1, oI 3, oR b101, oI 1, oI 2, oI w3tft_, oI 3] [(.int (d2tft_ + (1 : Int32))), (.int 2), (.ref b101)])) rfl rfl (hb hby d1_132)
        have Va337 := Arv.set Ar334 qk334 Sz334 Nz334 Hh334 Gg334 rfl W337 2 rfl (Nat.le_of_ble_eq_true rfl)
        have N337 := Fr.snoc X337 N331 g_b101
        have ZZ338 : n0 ≤ h337.size := Nat.le_trans ZZ332 (Nat.le_of_eq W337.size.symm)
        have KK339 : Keep h0 h337 [r0] := KK333.wr W337 (Or.inr sz_b101)
        have Fc340 := ((Vs298.other W331 (Nat.ne_of_lt (Nat.lt_of_lt_of_le V_r0.lt (Nat.le_of_eq g101.symm)))).other W337 (Nat.ne_of_lt (Nat.lt_of_lt_of_le V_r0.lt (Nat.le_of_eq g101.symm))))
        obtain ⟨cl341, Ar341, qk341, Sz341, Nz341, Hh341, Gg341⟩ := id Fc340
        have hin342 : ¬ (w3tft_ < 0 ∨ cl341.slots.size ≤ (w3tft_).toNatClampNeg) := inb_of Sz341 (own_b3 hWw3tft_)
        obtain ⟨T343, h343, X343, e343, W343, st343⟩ := stI X337 hx hZ e337 Ar341 (j := w3tft_) hin342 (g := (mkF m 138 #[oR r0, oR r1, oI 3, oR b101, oI 1, oI 2, oI w3tft_, oI 3] [(.int 2), (.int w3tft_), (.ref r0)])) rfl rfl (hb hby d1_138)
        have Va343 := Arv.set Ar341 qk341 Sz341 Nz341 Hh341 Gg341 rfl W343 (w3tft_).toNatClampNeg rfl (own_l3 hWw3tft_)
        have Vs343 : Arv Z h343 r0 ka .int (3 : Int32) [(.int n0tft_), (.int n1tft_), (.int n2tft_)] (.int 0) := by rw [← (by rw [hn0tft_, hn1tft_, hn2tft_]; exact own_s3 hWw3tft_ : ([(.int n0t_), (.int n1t_), (.int n2t_)] : List Value).set (w3tft_).toNatClampNeg (.int 2) = [(.int n0tft_), (.int n1tft_), (.int n2tft_)])]; exact Va343
        have N343 := Fr.snoc X343 N337 g_r0
        have ZZ344 : n0 ≤ h343.size := Nat.le_trans ZZ338 (Nat.le_of_eq W343.size.symm)
        have KK345 : Keep h0 h343 [r0] := KK339.wr W343 (Or.inl (List.mem_of_getElem? (i := 0) rfl))
        obtain ⟨fs, hr, hrun, hended, hW, hsame⟩ := X343.leave (v := some (.int 1)) (fun h => by rw [Bd.returns] at h; cases h)
        refine ⟨_, _, pre0 _ (pre327 _ ?_), hrun, hended, _, _, rfl, ?_, ⟨_, rfl⟩, hW, hsame.mono (by decide) (by decide)⟩
        · show own_S p e below T298 m 109 #[oR r0, oR r1, oI 3, oR b101, oI 1, oI 2, oI w3tft_, oI 2] [] _
          refine XS.iinc X298.here hx rfl (hb hby d1_109) rfl (l' := #[oR r0, oR r1, oI 3, oR b101, oI 1, oI 2, oI w3tft_, oI 3]) rfl ?_
          show own_S p e below T298 m 112 #[oR r0, oR r1, oI 3, oR b101, oI 1, oI 2, oI w3tft_, oI 3] [] _
          refine XS.goto X298.here hx rfl (pc0 := 112) (pc' := 71) rfl (hb hby d1_112) (by decide) (by decide) ?_
          show own_S p e below T298 m 71 _ [] _
          refine XS.iload X298.here hx rfl (hb hby d1_71) rfl ?_
          show own_S p e below T298 m 73 _ [(.int 3)] _
          refine XS.aloadN X298.here hx rfl (hb hby d1_73) rfl rfl ?_
          show own_S p e below T298 m 74 _ [(.ref r0), (.int 3)] _
          refine X298.arraylength hx (by rw [e298]; exact Ar307.1) (State.isArrayOf_alike hZ.alike Ar307.2.1) (g := (mkF m 74 #[oR r0, oR r1, oI 3, oR b101, oI 1, oI 2, oI w3tft_, oI 3] [(.ref r0), (.int 3)])) rfl rfl (hb hby d1_74) _ ?_
          rw [len_of Sz307 Nz307]
          show own_S p e below T298 m 75 _ [(.int 3), (.int 3)] _
          refine XS.icmpYes X298.here hx rfl (pc0 := 75) (pc' := 115) rfl (hb hby d1_75) rfl (flt (by decide : ¬ ((3 : Int32) < (3 : Int32)))).2.1 (by decide) (by decide) ?_
          show own_S p e below T298 m 115 _ [] _
          refine XS.aloadN X298.here hx rfl (hb hby d1_115) rfl rfl ?_
          show own_S p e below T298 m 116 _ [(.ref b101)] _
          refine XS.aloadN X298.here hx rfl (hb hby d1_116) rfl rfl ?_
          show own_S p e below T298 m 117 #[oR r0, oR r1, oI 3, oR b101, oI 1, oI 2, oI w3tft_, oI 3] [(.ref r0), (.ref b101)] _
          refine XS.iload X298.here hx rfl (hb hby d1_117) rfl ?_
          show own_S p e below T298 m 119 _ [(.int w3tft_), (.ref r0), (.ref b101)] _
          refine X298.iaload hx (j := w3tft_) (v := (.int mwtft_)) (by rw [e298]; exact Ar307.1) (State.isArrayOf_alike hZ.alike Ar307.2.1) Ar307.2.2 hin328 hat328 (g := (mkF m 119 #[oR r0, oR r1, oI 3, oR b101, oI 1, oI 2, oI w3tft_, oI 3] [(.int w3tft_), (.ref r0), (.ref b101)])) rfl rfl (hb hby d1_119) _ ?_
          show own_S p e below T298 m 120 _ [(.int mwtft_), (.ref b101)] _
          jvm_step X298.here [X298.here.top, hx, (hb hby d1_120), Value.category]
          show own_S p e below T298 m 121 #[oR r0, oR r1, oI 3, oR b101, oI 1, oI 2, oI w3tft_, oI 3] [(.int mwtft_), (.ref b101), (.int mwtft_), (.ref b101)] _
          refine X298.iaload hx (j := mwtft_) (v := (.int (own_at (d0t_ + (1 : Int32)) d1t_ d2t_ mwtft_))) (by rw [e298]; exact Ar302.1) (State.isArrayOf_alike hZ.alike Ar302.2.1) Ar302.2.2 hin329 hat329 (g := (mkF m 121 #[oR r0, oR r1, oI 3, oR b101, oI 1, oI 2, oI w3tft_, oI 3] [(.int mwtft_), (.ref b101), (.int mwtft_), (.ref b101)])) rfl rfl (hb hby d1_121) _ ?_
          show own_S p e below T298 m 122 _ [(.int (own_at (d0t_ + (1 : Int32)) d1t_ d2t_ mwtft_)), (.int mwtft_), (.ref b101)] _
          refine XS.iconst X298.here hx rfl (hb hby d1_122) ?_
          show own_S p e below T298 m 123 _ [(.int 1), (.int (own_at (d0t_ + (1 : Int32)) d1t_ d2t_ mwtft_)), (.int mwtft_), (.ref b101)] _
          refine XS.isub X298.here hx rfl (hb hby d1_123) rfl ?_
          show own_S p e below T298 m 124 _ [(.int ((own_at (d0t_ + (1 : Int32)) d1t_ d2t_ mwtft_) - (1 : Int32))), (.int mwtft_), (.ref b101)] _
          refine st331 _ ?_
          show own_S p e below T331 m 125 _ [] _
          refine XS.aloadN X331.here hx rfl (hb hby d1_125) rfl rfl ?_
          show own_S p e below T331 m 126 _ [(.ref b101)] _
          refine XS.iload X331.here hx rfl (hb hby d1_126) rfl ?_
          show own_S p e below T331 m 128 _ [(.int 2), (.ref b101)] _
          jvm_step X331.here [X331.here.top, hx, (hb hby d1_128), Value.category]
          show own_S p e below T331 m 129 #[oR r0, oR r1, oI 3, oR b101, oI 1, oI 2, oI w3tft_, oI 3] [(.int 2), (.ref b101), (.int 2), (.ref b101)] _
          refine X331.iaload hx (j := (2 : Int32)) (v := (.int d2tft_)) (by rw [e331]; exact Ar334.1) (State.isArrayOf_alike hZ.alike Ar334.2.1) Ar334.2.2 hin335 hat335 (g := (mkF m 129 #[oR r0, oR r1, oI 3, oR b101, oI 1, oI 2, oI w3tft_, oI 3] [(.int 2), (.ref b101), (.int 2), (.ref b101)])) rfl rfl (hb hby d1_129) _ ?_
          show own_S p e below T331 m 130 _ [(.int d2tft_), (.int 2), (.ref b101)] _
          refine XS.iconst X331.here hx rfl (hb hby d1_130) ?_
          show own_S p e below T331 m 131 _ [(.int 1), (.int d2tft_), (.int 2), (.ref b101)] _
          refine XS.iadd X331.here hx rfl (hb hby d1_131) rfl ?_
          show own_S p e below T331 m 132 _ [(.int (d2tft_ + (1 : Int32))), (.int 2), (.ref b101)] _
          refine st337 _ ?_
          show own_S p e below T337 m 133 _ [] _
          refine XS.aloadN X337.here hx rfl (hb hby d1_133) rfl rfl ?_
          show own_S p e below T337 m 134 _ [(.ref r0)] _
          refine XS.iload X337.here hx rfl (hb hby d1_134) rfl ?_
          show own_S p e below T337 m 136 _ [(.int w3tft_), (.ref r0)] _
          refine XS.iload X337.here hx rfl (hb hby d1_136) rfl ?_
          show own_S p e below T337 m 138 #[oR r0, oR r1, oI 3, oR b101, oI 1, oI 2, oI w3tft_, oI 3] [(.int 2), (.int w3tft_), (.ref r0)] _
          refine st343 _ ?_
          show own_S p e below T343 m 139 _ [] _
          refine XS.iconst X343.here hx rfl (hb hby d1_139) ?_
          show own_S p e below T343 m 140 _ [(.int 1)] _
          refine XS.istore X343.here hx rfl (hb hby d1_140) rfl (l' := #[oR r0, oR r1, oI 3, oR b101, oI 1, oI 2, oI w3tft_, oI 3]) rfl ?_
          show own_S p e below T343 m 142 _ [] _
          refine XS.iinc X343.here hx rfl (hb hby d1_142) rfl (l' := #[oR r0, oR r1, oI 3, oR b101, oI 1, oI 3, oI w3tft_, oI 3]) rfl ?_
          show own_S p e below T343 m 145 #[oR r0, oR r1, oI 3, oR b101, oI 1, oI 3, oI w3tft_, oI 3] [] _
          refine XS.goto X343.here hx rfl (pc0 := 145) (pc' := 49) rfl (hb hby d1_145) (by decide) (by decide) ?_
          show own_S p e below T343 m 49 _ [] _
          refine XS.iload X343.here hx rfl (hb hby d1_49) rfl ?_
          show own_S p e below T343 m 51 _ [(.int 3)] _
          refine XS.iloadN X343.here hx rfl (hb hby d1_51) rfl ?_
          show own_S p e below T343 m 52 _ [(.int 3), (.int 3)] _
          refine XS.icmpYes X343.here hx rfl (pc0 := 52) (pc' := 148) rfl (hb hby d1_52) rfl (flt (by decide : ¬ ((3 : Int32) < (3 : Int32)))).2.1 (by decide) (by decide) ?_
          show own_S p e below T343 m 148 _ [] _
          refine XS.iload X343.here hx rfl (hb hby d1_148) rfl ?_
          show own_S p e below T343 m 150 _ [(.int 1)] _
          exact retN X343 hx (t := .boolean) Bd.returns (by simp) (hb hby d1_150) hr
        · show Qf3 Z r0 r1 ka kb ma0 ma1 ma2 f0 f1 f2 x y z h0 n0 _ T343.heap _
          rw [e343]
          exact ⟨n0tft_, n1tft_, n2tft_, (1 : Int32), rfl, N343, KK345, Vs343, (by rw [H3]; exact ⟨rfl, rfl, rfl, rfl⟩)⟩
    · skip
      obtain ⟨w1tt_, hw1tt_⟩ : ∃ zz, zz = own_w1 (own_at (d0t_ + (1 : Int32)) d1t_ d2t_ n0t_) := ⟨_, rfl⟩
      obtain ⟨w2tt_, hw2tt_⟩ : ∃ zz, zz = own_w2 x (own_at (d0t_ + (1 : Int32)) d1t_ d2t_ n1t_) w1tt_ := ⟨_, rfl⟩
      obtain ⟨w3tt_, hw3tt_⟩ : ∃ zz, zz = own_w3 y z (own_at (d0t_ + (1 : Int32)) d1t_ d2t_ n2t_) w2tt_ := ⟨_, rfl⟩
      obtain ⟨mwtt_, hmwtt_⟩ : ∃ zz, zz = own_at n0t_ n1t_ n2t_ w3tt_ := ⟨_, rfl⟩
      obtain ⟨d0tt_, hd0tt_⟩ : ∃ zz, zz = own_p 0 mwtt_ ((own_at (d0t_ + (1 : Int32)) d1t_ d2t_ mwtt_) - (1 : Int32)) (d0t_ + (1 : Int32)) := ⟨_, rfl⟩
      obtain ⟨d1tt_, hd1tt_⟩ : ∃ zz, zz = own_p 1 mwtt_ ((own_at (d0t_ + (1 : Int32)) d1t_ d2t_ mwtt_) - (1 : Int32)) d1t_ := ⟨_, rfl⟩
      obtain ⟨d2tt_, hd2tt_⟩ : ∃ zz, zz = own_p 2 mwtt_ ((own_at (d0t_ + (1 : Int32)) d1t_ d2t_ mwtt_) - (1 : Int32)) d2t_ := ⟨_, rfl⟩
      obtain ⟨n0tt_, hn0tt_⟩ : ∃ zz, zz = own_p 0 w3tt_ (1 : Int32) n0t_ := ⟨_, rfl⟩
      obtain ⟨n1tt_, hn1tt_⟩ : ∃ zz, zz = own_p 1 w3tt_ (1 : Int32) n1t_ := ⟨_, rfl⟩
      obtain ⟨n2tt_, hn2tt_⟩ : ∃ zz, zz = own_p 2 w3tt_ (1 : Int32) n2t_ := ⟨_, rfl⟩
      have hWw3tt_ : (w3tt_ = 0 ∨ w3tt_ = 1 ∨ w3tt_ = 2) := by
        have q := own_L31 x y z ra0 ra1 ra2
        rw [H1, own_worstE hw1tt_ hw2tt_ hw3tt_] at q
        exact q he1
      have hRmwtt_ : (mwtt_ = 0 ∨ mwtt_ = 1 ∨ mwtt_ = 2) := by rw [hmwtt_]; exact own_atr (P := fun i => (i = 0 ∨ i = 1 ∨ i = 2)) hRn0t_ hRn1t_ hRn2t_
      have hRn0tt_ : (n0tt_ = 0 ∨ n0tt_ = 1 ∨ n0tt_ = 2) := by rw [hn0tt_]; exact own_pr (P := fun i => (i = 0 ∨ i = 1 ∨ i = 2)) (by decide) hRn0t_
      have hRn1tt_ : (n1tt_ = 0 ∨ n1tt_ = 1 ∨ n1tt_ = 2) := by rw [hn1tt_]; exact own_pr (P := fun i => (i = 0 ∨ i = 1 ∨ i = 2)) (by decide) hRn1t_
      have hRn2tt_ : (n2tt_ = 0 ∨ n2tt_ = 1 ∨ n2tt_ = 2) := by rw [hn2tt_]; exact own_pr (P := fun i => (i = 0 ∨ i = 1 ∨ i = 2)) (by decide) hRn2t_
      have H2 : own_F2 x y z ma0 ma1 ma2 = (⟨d0tt_, (d1tt_ + (1 : Int32)), d2tt_, n0tt_, n1tt_, n2tt_, (1 : Int32)⟩ : own_St) := own_F2u H1 he1 hw1tt_ hw2tt_ hw3tt_ hmwtt_ hd0tt_ hd1tt_ hd2tt_ hn0tt_ hn1tt_ hn2tt_
      obtain ⟨cl346, Ar346, qk346, Sz346, Nz346, Hh346, Gg346⟩ := id Vs298
      have hin347 : ¬ ((0 : Int32) < 0 ∨ cl346.slots.size ≤ ((0 : Int32)).toNatClampNeg) := inb_of Sz346 ⟨by decide, by decide⟩
      have hat347 : cl346.slots[((0 : Int32)).toNatClampNeg]? = some (.int n0t_) := Has.at Hh346 hin347 rfl
      have hin348 : ¬ (n0t_ < 0 ∨ cl302.slots.size ≤ (n0t_).toNatClampNeg) := inb_of Sz302 (own_b3 hRn0t_)
      have hat348 : cl302.slots[(n0t_).toNatClampNeg]? = some (.int (own_at (d0t_ + (1 : Int32)) d1t_ d2t_ n0t_)) := Has.at Hh302 hin348 (own_g3 hRn0t_)
      have pre349 : ∀ t, Steps p.tables e below (T298.setTop (mkF m 85 #[oR r0, oR r1, oI 3, oR b101, oI 1, oI 1, oI (-1), oI 0] [(.int 1), (.int (own_at (d0t_ + (1 : Int32)) d1t_ d2t_ n0t_))])) t → Steps p.tables e below (s₁.setTop (mkF m 0 #[oR r0, oR r1, oI 3, oU, oU, oU, oU, oU] [])) t := by
        intro t kt
        refine pre304 _ ?_
        show own_S p e below T298 m 59 #[oR r0, oR r1, oI 3, oR b101, oI 1, oI 1, oI w3t_, oI 3] [(.int d1t_)] _
        refine XS.ifYes X298.here hx rfl (pc0 := 59) (pc' := 65) rfl (hb hby d1_59) rfl ((if0 _ _).trans (flt (he1 : ¬ ((0 : Int32) < d1t_))).2.2.2) (by decide) (by decide) ?_
        show own_S p e below T298 m 65 _ [] _
        refine XS.iconst X298.here hx rfl (hb hby d1_65) ?_
        show own_S p e below T298 m 66 _ [(.int (-1))] _
        refine XS.istore X298.here hx rfl (hb hby d1_66) rfl (l' := #[oR r0, oR r1, oI 3, oR b101, oI 1, oI 1, oI (-1), oI 3]) rfl ?_
        show own_S p e below T298 m 68 #[oR r0, oR r1, oI 3, oR b101, oI 1, oI 1, oI (-1), oI 3] [] _
        refine XS.iconst X298.here hx rfl (hb hby d1_68) ?_
        show own_S p e below T298 m 69 _ [(.int 0)] _
        refine XS.istore X298.here hx rfl (hb hby d1_69) rfl (l' := #[oR r0, oR r1, oI 3, oR b101, oI 1, oI 1, oI (-1), oI 0]) rfl ?_
        show own_S p e below T298 m 71 #[oR r0, oR r1, oI 3, oR b101, oI 1, oI 1, oI (-1), oI 0] [] _
        refine XS.iload X298.here hx rfl (hb hby d1_71) rfl ?_
        show own_S p e below T298 m 73 _ [(.int 0)] _
        refine XS.aloadN X298.here hx rfl (hb hby d1_73) rfl rfl ?_
        show own_S p e below T298 m 74 _ [(.ref r0), (.int 0)] _
        refine X298.arraylength hx (by rw [e298]; exact Ar346.1) (State.isArrayOf_alike hZ.alike Ar346.2.1) (g := (mkF m 74 #[oR r0, oR r1, oI 3, oR b101, oI 1, oI 1, oI (-1), oI 0] [(.ref r0), (.int 0)])) rfl rfl (hb hby d1_74) _ ?_
        rw [len_of Sz346 Nz346]
        show own_S p e below T298 m 75 _ [(.int 3), (.int 0)] _
        refine XS.icmpNo X298.here hx rfl (hb hby d1_75) rfl (tlt (by decide : (0 : Int32) < (3 : Int32))).2.1 ?_
        show own_S p e below T298 m 78 _ [] _
        refine XS.aloadN X298.here hx rfl (hb hby d1_78) rfl rfl ?_
        show own_S p e below T298 m 79 _ [(.ref b101)] _
        refine XS.aloadN X298.here hx rfl (hb hby d1_79) rfl rfl ?_
        show own_S p e below T298 m 80 _ [(.ref r0), (.ref b101)] _
        refine XS.iload X298.here hx rfl (hb hby d1_80) rfl ?_
        show own_S p e below T298 m 82 #[oR r0, oR r1, oI 3, oR b101, oI 1, oI 1, oI (-1), oI 0] [(.int 0), (.ref r0), (.ref b101)] _
        refine X298.iaload hx (j := (0 : Int32)) (v := (.int n0t_)) (by rw [e298]; exact Ar346.1) (State.isArrayOf_alike hZ.alike Ar346.2.1) Ar346.2.2 hin347 hat347 (g := (mkF m 82 #[oR r0, oR r1, oI 3, oR b101, oI 1, oI 1, oI (-1), oI 0] [(.int 0), (.ref r0), (.ref b101)])) rfl rfl (hb hby d1_82) _ ?_
        show own_S p e below T298 m 83 _ [(.int n0t_), (.ref b101)] _
        refine X298.iaload hx (j := n0t_) (v := (.int (own_at (d0t_ + (1 : Int32)) d1t_ d2t_ n0t_))) (by rw [e298]; exact Ar302.1) (State.isArrayOf_alike hZ.alike Ar302.2.1) Ar302.2.2 hin348 hat348 (g := (mkF m 83 #[oR r0, oR r1, oI 3, oR b101, oI 1, oI 1, oI (-1), oI 0] [(.int n0t_), (.ref b101)])) rfl rfl (hb hby d1_83) _ ?_
        show own_S p e below T298 m 84 _ [(.int (own_at (d0t_ + (1 : Int32)) d1t_ d2t_ n0t_))] _
        refine XS.iconst X298.here hx rfl (hb hby d1_84) ?_
        exact kt
      have pre350 : ∀ t, Steps p.tables e below (T298.setTop (mkF m 109 #[oR r0, oR r1, oI 3, oR b101, oI 1, oI 1, oI w1tt_, oI 0] [])) t → Steps p.tables e below (s₁.setTop (mkF m 0 #[oR r0, oR r1, oI 3, oU, oU, oU, oU, oU] [])) t := by
        intro t kt
        refine pre349 _ ?_
        show own_S p e below T298 m 85 #[oR r0, oR r1, oI 3, oR b101, oI 1, oI 1, oI (-1), oI 0] [(.int 1), (.int (own_at (d0t_ + (1 : Int32)) d1t_ d2t_ n0t_))] _
        by_cases hj : (1 : Int32) < (own_at (d0t_ + (1 : Int32)) d1t_ d2t_ n0t_)
        · skip
          refine XS.icmpNo X298.here hx rfl (hb hby d1_85) rfl (tlt (hj : (1 : Int32) < (own_at (d0t_ + (1 : Int32)) d1t_ d2t_ n0t_))).2.2.2 ?_
          show own_S p e below T298 m 88 #[oR r0, oR r1, oI 3, oR b101, oI 1, oI 1, oI (-1), oI 0] [] _
          refine XS.iload X298.here hx rfl (hb hby d1_88) rfl ?_
          show own_S p e below T298 m 90 _ [(.int (-1))] _
          refine XS.ifYes X298.here hx rfl (pc0 := 90) (pc' := 105) rfl (hb hby d1_90) rfl ((if0 _ _).trans (tlt (by decide : (-1 : Int32) < (0 : Int32))).1) (by decide) (by decide) ?_
          show own_S p e below T298 m 105 _ [] _
          refine XS.iload X298.here hx rfl (hb hby d1_105) rfl ?_
          show own_S p e below T298 m 107 _ [(.int 0)] _
          refine XS.istore X298.here hx rfl (hb hby d1_107) rfl (l' := #[oR r0, oR r1, oI 3, oR b101, oI 1, oI 1, oI 0, oI 0]) rfl ?_
          rw [(hw1tt_.trans (if_pos hj) : w1tt_ = (0 : Int32))] at kt
          exact kt
        · skip
          refine XS.icmpYes X298.here hx rfl (pc0 := 85) (pc' := 109) rfl (hb hby d1_85) rfl (flt (hj : ¬ ((1 : Int32) < (own_at (d0t_ + (1 : Int32)) d1t_ d2t_ n0t_)))).2.2.2 (by decide) (by decide) ?_
          rw [(hw1tt_.trans (if_neg hj) : w1tt_ = (-1 : Int32))] at kt
          exact kt
      have hin351 : ¬ ((1 : Int32) < 0 ∨ cl346.slots.size ≤ ((1 : Int32)).toNatClampNeg) := inb_of Sz346 ⟨by decide, by decide⟩
      have hat351 : cl346.slots[((1 : Int32)).toNatClampNeg]? = some (.int n1t_) := Has.at Hh346 hin351 rfl
      have hin352 : ¬ (n1t_ < 0 ∨ cl302.slots.size ≤ (n1t_).toNatClampNeg) := inb_of Sz302 (own_b3 hRn1t_)
      have hat352 : cl302.slots[(n1t_).toNatClampNeg]? = some (.int (own_at (d0t_ + (1 : Int32)) d1t_ d2t_ n1t_)) := Has.at Hh302 hin352 (own_g3 hRn1t_)
      have pre353 : ∀ t, Steps p.tables e below (T298.setTop (mkF m 85 #[oR r0, oR r1, oI 3, oR b101, oI 1, oI 1, oI w1tt_, oI 1] [(.int 1), (.int (own_at (d0t_ + (1 : Int32)) d1t_ d2t_ n1t_))])) t → Steps p.tables e below (s₁.setTop (mkF m 0 #[oR r0, oR r1, oI 3, oU, oU, oU, oU, oU] [])) t := by
        intro t kt
        refine pre350 _ ?_
        show own_S p e below T298 m 109 #[oR r0, oR r1, oI 3, oR b101, oI 1, oI 1, oI w1tt_, oI 0] [] _
        refine XS.iinc X298.here hx rfl (hb hby d1_109) rfl (l' := #[oR r0, oR r1, oI 3, oR b101, oI 1, oI 1, oI w1tt_, oI 1]) rfl ?_
        show own_S p e below T298 m 112 #[oR r0, oR r1, oI 3, oR b101, oI 1, oI 1, oI w1tt_, oI 1] [] _
        refine XS.goto X298.here hx rfl (pc0 := 112) (pc' := 71) rfl (hb hby d1_112) (by decide) (by decide) ?_
        show own_S p e below T298 m 71 _ [] _
        refine XS.iload X298.here hx rfl (hb hby d1_71) rfl ?_
        show own_S p e below T298 m 73 _ [(.int 1)] _
        refine XS.aloadN X298.here hx rfl (hb hby d1_73) rfl rfl ?_
        show own_S p e below T298 m 74 _ [(.ref r0), (.int 1)] _
        refine X298.arraylength hx (by rw [e298]; exact Ar346.1) (State.isArrayOf_alike hZ.alike Ar346.2.1) (g := (mkF m 74 #[oR r0, oR r1, oI 3, oR b101, oI 1, oI 1, oI w1tt_, oI 1] [(.ref r0), (.int 1)])) rfl rfl (hb hby d1_74) _ ?_
        rw [len_of Sz346 Nz346]
        show own_S p e below T298 m 75 _ [(.int 3), (.int 1)] _
        refine XS.icmpNo X298.here hx rfl (hb hby d1_75) rfl (tlt (by decide : (1 : Int32) < (3 : Int32))).2.1 ?_
        show own_S p e below T298 m 78 _ [] _
        refine XS.aloadN X298.here hx rfl (hb hby d1_78) rfl rfl ?_
        show own_S p e below T298 m 79 _ [(.ref b101)] _
        refine XS.aloadN X298.here hx rfl (hb hby d1_79) rfl rfl ?_
        show own_S p e below T298 m 80 #[oR r0, oR r1, oI 3, oR b101, oI 1, oI 1, oI w1tt_, oI 1] [(.ref r0), (.ref b101)] _
        refine XS.iload X298.here hx rfl (hb hby d1_80) rfl ?_
        show own_S p e below T298 m 82 _ [(.int 1), (.ref r0), (.ref b101)] _
        refine X298.iaload hx (j := (1 : Int32)) (v := (.int n1t_)) (by rw [e298]; exact Ar346.1) (State.isArrayOf_alike hZ.alike Ar346.2.1) Ar346.2.2 hin351 hat351 (g := (mkF m 82 #[oR r0, oR r1, oI 3, oR b101, oI 1, oI 1, oI w1tt_, oI 1] [(.int 1), (.ref r0), (.ref b101)])) rfl rfl (hb hby d1_82) _ ?_
        show own_S p e below T298 m 83 _ [(.int n1t_), (.ref b101)] _
        refine X298.iaload hx (j := n1t_) (v := (.int (own_at (d0t_ + (1 : Int32)) d1t_ d2t_ n1t_))) (by rw [e298]; exact Ar302.1) (State.isArrayOf_alike hZ.alike Ar302.2.1) Ar302.2.2 hin352 hat352 (g := (mkF m 83 #[oR r0, oR r1, oI 3, oR b101, oI 1, oI 1, oI w1tt_, oI 1] [(.int n1t_), (.ref b101)])) rfl rfl (hb hby d1_83) _ ?_
        show own_S p e below T298 m 84 _ [(.int (own_at (d0t_ + (1 : Int32)) d1t_ d2t_ n1t_))] _
        refine XS.iconst X298.here hx rfl (hb hby d1_84) ?_
        exact kt
      have pre358 : ∀ t, Steps p.tables e below (T298.setTop (mkF m 109 #[oR r0, oR r1, oI 3, oR b101, oI 1, oI 1, oI w2tt_, oI 1] [])) t → Steps p.tables e below (s₁.setTop (mkF m 0 #[oR r0, oR r1, oI 3, oU, oU, oU, oU, oU] [])) t := by
        intro t kt
        refine pre353 _ ?_
        show own_S p e below T298 m 85 #[oR r0, oR r1, oI 3, oR b101, oI 1, oI 1, oI w1tt_, oI 1] [(.int 1), (.int (own_at (d0t_ + (1 : Int32)) d1t_ d2t_ n1t_))] _
        by_cases hj : (1 : Int32) < (own_at (d0t_ + (1 : Int32)) d1t_ d2t_ n1t_)
        · skip
          refine XS.icmpNo X298.here hx rfl (hb hby d1_85) rfl (tlt (hj : (1 : Int32) < (own_at (d0t_ + (1 : Int32)) d1t_ d2t_ n1t_))).2.2.2 ?_
          show own_S p e below T298 m 88 #[oR r0, oR r1, oI 3, oR b101, oI 1, oI 1, oI w1tt_, oI 1] [] _
          refine XS.iload X298.here hx rfl (hb hby d1_88) rfl ?_
          show own_S p e below T298 m 90 _ [(.int w1tt_)] _
          by_cases hn : w1tt_ < (0 : Int32)
          · skip
            refine XS.ifYes X298.here hx rfl (pc0 := 90) (pc' := 105) rfl (hb hby d1_90) rfl ((if0 _ _).trans (tlt (hn : w1tt_ < (0 : Int32))).1) (by decide) (by decide) ?_
            show own_S p e below T298 m 105 #[oR r0, oR r1, oI 3, oR b101, oI 1, oI 1, oI w1tt_, oI 1] [] _
            refine XS.iload X298.here hx rfl (hb hby d1_105) rfl ?_
            show own_S p e below T298 m 107 _ [(.int 1)] _
            refine XS.istore X298.here hx rfl (hb hby d1_107) rfl (l' := #[oR r0, oR r1, oI 3, oR b101, oI 1, oI 1, oI 1, oI 1]) rfl ?_
            rw [(hw2tt_.trans (own_w2TT hj hn) : w2tt_ = (1 : Int32))] at kt
            exact kt
          · skip
            have Fc354 := (((((((V_r1.ext E101).other W110 (Nat.ne_of_lt (Nat.lt_of_lt_of_le V_r1.lt (Nat.le_of_eq g101.symm)))).other W119 (Nat.ne_of_lt (Nat.lt_of_lt_of_le V_r1.lt (Nat.le_of_eq g101.symm)))).other W128 (Nat.ne_of_lt (Nat.lt_of_lt_of_le V_r1.lt (Nat.le_of_eq g101.symm)))).other W286 (Nat.ne_of_lt (Nat.lt_of_lt_of_le V_r1.lt (Nat.le_of_eq g101.symm)))).other W292 (Nat.ne_of_lt (Nat.lt_of_lt_of_le V_r1.lt (Nat.le_of_eq g101.symm)))).other W298 ne_r1_r0)
            obtain ⟨cl355, Ar355, qk355, Sz355, Nz355, Hh355, Gg355⟩ := id Fc354
            have hin356 : ¬ ((1 : Int32) < 0 ∨ cl355.slots.size ≤ ((1 : Int32)).toNatClampNeg) := inb_of Sz355 ⟨by decide, by decide⟩
            have hat356 : cl355.slots[((1 : Int32)).toNatClampNeg]? = some (.double f1) := Has.at Hh355 hin356 rfl
            have hin357 : ¬ (w1tt_ < 0 ∨ cl355.slots.size ≤ (w1tt_).toNatClampNeg) := inb_of Sz355 (own_b00 (own_w1z hw1tt_ hn))
            have hat357 : cl355.slots[(w1tt_).toNatClampNeg]? = some (.double f0) := Has.at Hh355 hin357 (own_gd0 (own_w1z hw1tt_ hn))
            refine XS.ifNo X298.here hx rfl (hb hby d1_90) rfl ((if0 _ _).trans (flt (hn : ¬ (w1tt_ < (0 : Int32)))).1) ?_
            show own_S p e below T298 m 93 #[oR r0, oR r1, oI 3, oR b101, oI 1, oI 1, oI w1tt_, oI 1] [] _
            refine XS.aloadN X298.here hx rfl (hb hby d1_93) rfl rfl ?_
            show own_S p e below T298 m 94 _ [(.ref r1)] _
            refine XS.iload X298.here hx rfl (hb hby d1_94) rfl ?_
            show own_S p e below T298 m 96 _ [(.int 1), (.ref r1)] _
            refine X298.daload hx (j := (1 : Int32)) (v := (.double f1)) (by rw [e298]; exact Ar355.1) (State.isArrayOf_alike hZ.alike Ar355.2.1) Ar355.2.2 hin356 hat356 (g := (mkF m 96 #[oR r0, oR r1, oI 3, oR b101, oI 1, oI 1, oI w1tt_, oI 1] [(.int 1), (.ref r1)])) rfl rfl (hb hby d1_96) _ ?_
            show own_S p e below T298 m 97 _ [(.double f1)] _
            refine XS.aloadN X298.here hx rfl (hb hby d1_97) rfl rfl ?_
            show own_S p e below T298 m 98 _ [(.ref r1), (.double f1)] _
            refine XS.iload X298.here hx rfl (hb hby d1_98) rfl ?_
            show own_S p e below T298 m 100 _ [(.int w1tt_), (.ref r1), (.double f1)] _
            refine X298.daload hx (j := w1tt_) (v := (.double f0)) (by rw [e298]; exact Ar355.1) (State.isArrayOf_alike hZ.alike Ar355.2.1) Ar355.2.2 hin357 hat357 (g := (mkF m 100 #[oR r0, oR r1, oI 3, oR b101, oI 1, oI 1, oI w1tt_, oI 1] [(.int w1tt_), (.ref r1), (.double f1)])) rfl rfl (hb hby d1_100) _ ?_
            show own_S p e below T298 m 101 _ [(.double f0), (.double f1)] _
            refine XS.dcmpS X298.here hx rfl (v := (cmpValue (FP.dcmp f1 f0) .g)) (hb hby d1_101) rfl rfl ?_
            show own_S p e below T298 m 102 #[oR r0, oR r1, oI 3, oR b101, oI 1, oI 1, oI w1tt_, oI 1] [(.int (cmpValue (FP.dcmp f1 f0) .g))] _
            by_cases hd : (cmpValue (FP.dcmp f1 f0) .g) < (0 : Int32)
            · skip
              refine XS.ifNo X298.here hx rfl (hb hby d1_102) rfl ((if0 _ _).trans (tlt (hd : (cmpValue (FP.dcmp f1 f0) .g) < (0 : Int32))).2.1) ?_
              show own_S p e below T298 m 105 #[oR r0, oR r1, oI 3, oR b101, oI 1, oI 1, oI w1tt_, oI 1] [] _
              refine XS.iload X298.here hx rfl (hb hby d1_105) rfl ?_
              show own_S p e below T298 m 107 _ [(.int 1)] _
              refine XS.istore X298.here hx rfl (hb hby d1_107) rfl (l' := #[oR r0, oR r1, oI 3, oR b101, oI 1, oI 1, oI 1, oI 1]) rfl ?_
              rw [(hw2tt_.trans (own_w2TFT hj hn (cx.mp hd)) : w2tt_ = (1 : Int32))] at kt
              exact kt
            · skip
              refine XS.ifYes X298.here hx rfl (pc0 := 102) (pc' := 109) rfl (hb hby d1_102) rfl ((if0 _ _).trans (flt (hd : ¬ ((cmpValue (FP.dcmp f1 f0) .g) < (0 : Int32)))).2.1) (by decide) (by decide) ?_
              rw [(hw2tt_.trans (own_w2TFF hj hn (fun q => hd (cx.mpr q))) : w2tt_ = w1tt_)] at kt
              exact kt
        · skip
          refine XS.icmpYes X298.here hx rfl (pc0 := 85) (pc' := 109) rfl (hb hby d1_85) rfl (flt (hj : ¬ ((1 : Int32) < (own_at (d0t_ + (1 : Int32)) d1t_ d2t_ n1t_)))).2.2.2 (by decide) (by decide) ?_
          rw [(hw2tt_.trans (own_w2F hj) : w2tt_ = w1tt_)] at kt
          exact kt
      have hin359 : ¬ ((2 : Int32) < 0 ∨ cl346.slots.size ≤ ((2 : Int32)).toNatClampNeg) := inb_of Sz346 ⟨by decide, by decide⟩
      have hat359 : cl346.slots[((2 : Int32)).toNatClampNeg]? = some (.int n2t_) := Has.at Hh346 hin359 rfl
      have hin360 : ¬ (n2t_ < 0 ∨ cl302.slots.size ≤ (n2t_).toNatClampNeg) := inb_of Sz302 (own_b3 hRn2t_)
      have hat360 : cl302.slots[(n2t_).toNatClampNeg]? = some (.int (own_at (d0t_ + (1 : Int32)) d1t_ d2t_ n2t_)) := Has.at Hh302 hin360 (own_g3 hRn2t_)
      have pre361 : ∀ t, Steps p.tables e below (T298.setTop (mkF m 85 #[oR r0, oR r1, oI 3, oR b101, oI 1, oI 1, oI w2tt_, oI 2] [(.int 1), (.int (own_at (d0t_ + (1 : Int32)) d1t_ d2t_ n2t_))])) t → Steps p.tables e below (s₁.setTop (mkF m 0 #[oR r0, oR r1, oI 3, oU, oU, oU, oU, oU] [])) t := by
        intro t kt
        refine pre358 _ ?_
        show own_S p e below T298 m 109 #[oR r0, oR r1, oI 3, oR b101, oI 1, oI 1, oI w2tt_, oI 1] [] _
        refine XS.iinc X298.here hx rfl (hb hby d1_109) rfl (l' := #[oR r0, oR r1, oI 3, oR b101, oI 1, oI 1, oI w2tt_, oI 2]) rfl ?_
        show own_S p e below T298 m 112 #[oR r0, oR r1, oI 3, oR b101, oI 1, oI 1, oI w2tt_, oI 2] [] _
        refine XS.goto X298.here hx rfl (pc0 := 112) (pc' := 71) rfl (hb hby d1_112) (by decide) (by decide) ?_
        show own_S p e below T298 m 71 _ [] _
        refine XS.iload X298.here hx rfl (hb hby d1_71) rfl ?_
        show own_S p e below T298 m 73 _ [(.int 2)] _
        refine XS.aloadN X298.here hx rfl (hb hby d1_73) rfl rfl ?_
        show own_S p e below T298 m 74 _ [(.ref r0), (.int 2)] _
        refine X298.arraylength hx (by rw [e298]; exact Ar346.1) (State.isArrayOf_alike hZ.alike Ar346.2.1) (g := (mkF m 74 #[oR r0, oR r1, oI 3, oR b101, oI 1, oI 1, oI w2tt_, oI 2] [(.ref r0), (.int 2)])) rfl rfl (hb hby d1_74) _ ?_
        rw [len_of Sz346 Nz346]
        show own_S p e below T298 m 75 _ [(.int 3), (.int 2)] _
        refine XS.icmpNo X298.here hx rfl (hb hby d1_75) rfl (tlt (by decide : (2 : Int32) < (3 : Int32))).2.1 ?_
        show own_S p e below T298 m 78 _ [] _
        refine XS.aloadN X298.here hx rfl (hb hby d1_78) rfl rfl ?_
        show own_S p e below T298 m 79 _ [(.ref b101)] _
        refine XS.aloadN X298.here hx rfl (hb hby d1_79) rfl rfl ?_
        show own_S p e below T298 m 80 #[oR r0, oR r1, oI 3, oR b101, oI 1, oI 1, oI w2tt_, oI 2] [(.ref r0), (.ref b101)] _
        refine XS.iload X298.here hx rfl (hb hby d1_80) rfl ?_
        show own_S p e below T298 m 82 _ [(.int 2), (.ref r0), (.ref b101)] _
        refine X298.iaload hx (j := (2 : Int32)) (v := (.int n2t_)) (by rw [e298]; exact Ar346.1) (State.isArrayOf_alike hZ.alike Ar346.2.1) Ar346.2.2 hin359 hat359 (g := (mkF m 82 #[oR r0, oR r1, oI 3, oR b101, oI 1, oI 1, oI w2tt_, oI 2] [(.int 2), (.ref r0), (.ref b101)])) rfl rfl (hb hby d1_82) _ ?_
        show own_S p e below T298 m 83 _ [(.int n2t_), (.ref b101)] _
        refine X298.iaload hx (j := n2t_) (v := (.int (own_at (d0t_ + (1 : Int32)) d1t_ d2t_ n2t_))) (by rw [e298]; exact Ar302.1) (State.isArrayOf_alike hZ.alike Ar302.2.1) Ar302.2.2 hin360 hat360 (g := (mkF m 83 #[oR r0, oR r1, oI 3, oR b101, oI 1, oI 1, oI w2tt_, oI 2] [(.int n2t_), (.ref b101)])) rfl rfl (hb hby d1_83) _ ?_
        show own_S p e below T298 m 84 _ [(.int (own_at (d0t_ + (1 : Int32)) d1t_ d2t_ n2t_))] _
        refine XS.iconst X298.here hx rfl (hb hby d1_84) ?_
        exact kt
      have pre366 : ∀ t, Steps p.tables e below (T298.setTop (mkF m 109 #[oR r0, oR r1, oI 3, oR b101, oI 1, oI 1, oI w3tt_, oI 2] [])) t → Steps p.tables e below (s₁.setTop (mkF m 0 #[oR r0, oR r1, oI 3, oU, oU, oU, oU, oU] [])) t := by
        intro t kt
        refine pre361 _ ?_
        show own_S p e below T298 m 85 #[oR r0, oR r1, oI 3, oR b101, oI 1, oI 1, oI w2tt_, oI 2] [(.int 1), (.int (own_at (d0t_ + (1 : Int32)) d1t_ d2t_ n2t_))] _
        by_cases hj : (1 : Int32) < (own_at (d0t_ + (1 : Int32)) d1t_ d2t_ n2t_)
        · skip
          refine XS.icmpNo X298.here hx rfl (hb hby d1_85) rfl (tlt (hj : (1 : Int32) < (own_at (d0t_ + (1 : Int32)) d1t_ d2t_ n2t_))).2.2.2 ?_
          show own_S p e below T298 m 88 #[oR r0, oR r1, oI 3, oR b101, oI 1, oI 1, oI w2tt_, oI 2] [] _
          refine XS.iload X298.here hx rfl (hb hby d1_88) rfl ?_
          show own_S p e below T298 m 90 _ [(.int w2tt_)] _
          by_cases hn : w2tt_ < (0 : Int32)
          · skip
            refine XS.ifYes X298.here hx rfl (pc0 := 90) (pc' := 105) rfl (hb hby d1_90) rfl ((if0 _ _).trans (tlt (hn : w2tt_ < (0 : Int32))).1) (by decide) (by decide) ?_
            show own_S p e below T298 m 105 #[oR r0, oR r1, oI 3, oR b101, oI 1, oI 1, oI w2tt_, oI 2] [] _
            refine XS.iload X298.here hx rfl (hb hby d1_105) rfl ?_
            show own_S p e below T298 m 107 _ [(.int 2)] _
            refine XS.istore X298.here hx rfl (hb hby d1_107) rfl (l' := #[oR r0, oR r1, oI 3, oR b101, oI 1, oI 1, oI 2, oI 2]) rfl ?_
            rw [(hw3tt_.trans (own_w3TT hj hn) : w3tt_ = (2 : Int32))] at kt
            exact kt
          · skip
            have Fc362 := (((((((V_r1.ext E101).other W110 (Nat.ne_of_lt (Nat.lt_of_lt_of_le V_r1.lt (Nat.le_of_eq g101.symm)))).other W119 (Nat.ne_of_lt (Nat.lt_of_lt_of_le V_r1.lt (Nat.le_of_eq g101.symm)))).other W128 (Nat.ne_of_lt (Nat.lt_of_lt_of_le V_r1.lt (Nat.le_of_eq g101.symm)))).other W286 (Nat.ne_of_lt (Nat.lt_of_lt_of_le V_r1.lt (Nat.le_of_eq g101.symm)))).other W292 (Nat.ne_of_lt (Nat.lt_of_lt_of_le V_r1.lt (Nat.le_of_eq g101.symm)))).other W298 ne_r1_r0)
            obtain ⟨cl363, Ar363, qk363, Sz363, Nz363, Hh363, Gg363⟩ := id Fc362
            have hin364 : ¬ ((2 : Int32) < 0 ∨ cl363.slots.size ≤ ((2 : Int32)).toNatClampNeg) := inb_of Sz363 ⟨by decide, by decide⟩
            have hat364 : cl363.slots[((2 : Int32)).toNatClampNeg]? = some (.double f2) := Has.at Hh363 hin364 rfl
            have hin365 : ¬ (w2tt_ < 0 ∨ cl363.slots.size ≤ (w2tt_).toNatClampNeg) := inb_of Sz363 (own_b01 (own_w2z hw1tt_ hw2tt_ hn))
            have hat365 : cl363.slots[(w2tt_).toNatClampNeg]? = some (.double (own_atD f0 f1 w2tt_)) := Has.at Hh363 hin365 (own_gd (own_w2z hw1tt_ hw2tt_ hn))
            refine XS.ifNo X298.here hx rfl (hb hby d1_90) rfl ((if0 _ _).trans (flt (hn : ¬ (w2tt_ < (0 : Int32)))).1) ?_
            show own_S p e below T298 m 93 #[oR r0, oR r1, oI 3, oR b101, oI 1, oI 1, oI w2tt_, oI 2] [] _
            refine XS.aloadN X298.here hx rfl (hb hby d1_93) rfl rfl ?_
            show own_S p e below T298 m 94 _ [(.ref r1)] _
            refine XS.iload X298.here hx rfl (hb hby d1_94) rfl ?_
            show own_S p e below T298 m 96 _ [(.int 2), (.ref r1)] _
            refine X298.daload hx (j := (2 : Int32)) (v := (.double f2)) (by rw [e298]; exact Ar363.1) (State.isArrayOf_alike hZ.alike Ar363.2.1) Ar363.2.2 hin364 hat364 (g := (mkF m 96 #[oR r0, oR r1, oI 3, oR b101, oI 1, oI 1, oI w2tt_, oI 2] [(.int 2), (.ref r1)])) rfl rfl (hb hby d1_96) _ ?_
            show own_S p e below T298 m 97 _ [(.double f2)] _
            refine XS.aloadN X298.here hx rfl (hb hby d1_97) rfl rfl ?_
            show own_S p e below T298 m 98 _ [(.ref r1), (.double f2)] _
            refine XS.iload X298.here hx rfl (hb hby d1_98) rfl ?_
            show own_S p e below T298 m 100 _ [(.int w2tt_), (.ref r1), (.double f2)] _
            refine X298.daload hx (j := w2tt_) (v := (.double (own_atD f0 f1 w2tt_))) (by rw [e298]; exact Ar363.1) (State.isArrayOf_alike hZ.alike Ar363.2.1) Ar363.2.2 hin365 hat365 (g := (mkF m 100 #[oR r0, oR r1, oI 3, oR b101, oI 1, oI 1, oI w2tt_, oI 2] [(.int w2tt_), (.ref r1), (.double f2)])) rfl rfl (hb hby d1_100) _ ?_
            show own_S p e below T298 m 101 _ [(.double (own_atD f0 f1 w2tt_)), (.double f2)] _
            refine XS.dcmpS X298.here hx rfl (v := (cmpValue (FP.dcmp f2 (own_atD f0 f1 w2tt_)) .g)) (hb hby d1_101) rfl rfl ?_
            show own_S p e below T298 m 102 #[oR r0, oR r1, oI 3, oR b101, oI 1, oI 1, oI w2tt_, oI 2] [(.int (cmpValue (FP.dcmp f2 (own_atD f0 f1 w2tt_)) .g))] _
            by_cases hd : (cmpValue (FP.dcmp f2 (own_atD f0 f1 w2tt_)) .g) < (0 : Int32)
            · skip
              refine XS.ifNo X298.here hx rfl (hb hby d1_102) rfl ((if0 _ _).trans (tlt (hd : (cmpValue (FP.dcmp f2 (own_atD f0 f1 w2tt_)) .g) < (0 : Int32))).2.1) ?_
              show own_S p e below T298 m 105 #[oR r0, oR r1, oI 3, oR b101, oI 1, oI 1, oI w2tt_, oI 2] [] _
              refine XS.iload X298.here hx rfl (hb hby d1_105) rfl ?_
              show own_S p e below T298 m 107 _ [(.int 2)] _
              refine XS.istore X298.here hx rfl (hb hby d1_107) rfl (l' := #[oR r0, oR r1, oI 3, oR b101, oI 1, oI 1, oI 2, oI 2]) rfl ?_
              rw [(hw3tt_.trans (own_w3TFT hj hn ((own_cyz (own_w2z hw1tt_ hw2tt_ hn) cy cz).mp hd)) : w3tt_ = (2 : Int32))] at kt
              exact kt
            · skip
              refine XS.ifYes X298.here hx rfl (pc0 := 102) (pc' := 109) rfl (hb hby d1_102) rfl ((if0 _ _).trans (flt (hd : ¬ ((cmpValue (FP.dcmp f2 (own_atD f0 f1 w2tt_)) .g) < (0 : Int32)))).2.1) (by decide) (by decide) ?_
              rw [(hw3tt_.trans (own_w3TFF hj hn (fun q => hd ((own_cyz (own_w2z hw1tt_ hw2tt_ hn) cy cz).mpr q))) : w3tt_ = w2tt_)] at kt
              exact kt
        · skip
          refine XS.icmpYes X298.here hx rfl (pc0 := 85) (pc' := 109) rfl (hb hby d1_85) rfl (flt (hj : ¬ ((1 : Int32) < (own_at (d0t_ + (1 : Int32)) d1t_ d2t_ n2t_)))).2.2.2 (by decide) (by decide) ?_
          rw [(hw3tt_.trans (own_w3F hj) : w3tt_ = w2tt_)] at kt
          exact kt
      have hin367 : ¬ (w3tt_ < 0 ∨ cl346.slots.size ≤ (w3tt_).toNatClampNeg) := inb_of Sz346 (own_b3 hWw3tt_)
      have hat367 : cl346.slots[(w3tt_).toNatClampNeg]? = some (.int mwtt_) := Has.at Hh346 hin367 (by rw [hmwtt_]; exact own_g3 hWw3tt_)
      have hin368 : ¬ (mwtt_ < 0 ∨ cl302.slots.size ≤ (mwtt_).toNatClampNeg) := inb_of Sz302 (own_b3 hRmwtt_)
      have hat368 : cl302.slots[(mwtt_).toNatClampNeg]? = some (.int (own_at (d0t_ + (1 : Int32)) d1t_ d2t_ mwtt_)) := Has.at Hh302 hin368 (own_g3 hRmwtt_)
      have hin369 : ¬ (mwtt_ < 0 ∨ cl302.slots.size ≤ (mwtt_).toNatClampNeg) := inb_of Sz302 (own_b3 hRmwtt_)
      obtain ⟨T370, h370, X370, e370, W370, st370⟩ := stI X298 hx hZ e298 Ar302 (j := mwtt_) hin369 (g := (mkF m 124 #[oR r0, oR r1, oI 3, oR b101, oI 1, oI 1, oI w3tt_, oI 3] [(.int ((own_at (d0t_ + (1 : Int32)) d1t_ d2t_ mwtt_) - (1 : Int32))), (.int mwtt_), (.ref b101)])) rfl rfl (hb hby d1_124)
      have Va370 := Arv.set Ar302 qk302 Sz302 Nz302 Hh302 Gg302 rfl W370 (mwtt_).toNatClampNeg rfl (own_l3 hRmwtt_)
      have Vs370 : Arv Z h370 b101 k101 .int (3 : Int32) [(.int d0tt_), (.int d1tt_), (.int d2tt_)] (.int 0) := by rw [← (by rw [hd0tt_, hd1tt_, hd2tt_]; exact own_s3 hRmwtt_ : ([(.int (d0t_ + (1 : Int32))), (.int d1t_), (.int d2t_)] : List Value).set (mwtt_).toNatClampNeg (.int ((own_at (d0t_ + (1 : Int32)) d1t_ d2t_ mwtt_) - (1 : Int32))) = [(.int d0tt_), (.int d1tt_), (.int d2tt_)])]; exact Va370
      have N370 := Fr.snoc X370 N298 g_b101
      have ZZ371 : n0 ≤ h370.size := Nat.le_trans ZZ299 (Nat.le_of_eq W370.size.symm)
      have KK372 : Keep h0 h370 [r0] := KK300.wr W370 (Or.inr sz_b101)
      obtain ⟨cl373, Ar373, qk373, Sz373, Nz373, Hh373, Gg373⟩ := id Vs370
      have hin374 : ¬ ((1 : Int32) < 0 ∨ cl373.slots.size ≤ ((1 : Int32)).toNatClampNeg) := inb_of Sz373 ⟨by decide, by decide⟩
      have hat374 : cl373.slots[((1 : Int32)).toNatClampNeg]? = some (.int d1tt_) := Has.at Hh373 hin374 rfl
      have hin375 : ¬ ((1 : Int32) < 0 ∨ cl373.slots.size ≤ ((1 : Int32)).toNatClampNeg) := inb_of Sz373 ⟨by decide, by decide⟩
      obtain ⟨T376, h376, X376, e376, W376, st376⟩ := stI X370 hx hZ e370 Ar373 (j := (1 : Int32)) hin375 (g := (mkF m 132 #[oR r0, oR r1, oI 3, oR b101, oI 1, oI 1, oI w3tt_, oI 3] [(.int (d1tt_ + (1 : Int32))), (.int 1), (.ref b101)])) rfl rfl (hb hby d1_132)
      have Va376 := Arv.set Ar373 qk373 Sz373 Nz373 Hh373 Gg373 rfl W376 1 rfl (Nat.le_of_ble_eq_true rfl)
      have N376 := Fr.snoc X376 N370 g_b101
      have ZZ377 : n0 ≤ h376.size := Nat.le_trans ZZ371 (Nat.le_of_eq W376.size.symm)
      have KK378 : Keep h0 h376 [r0] := KK372.wr W376 (Or.inr sz_b101)
      have Fc379 := ((Vs298.other W370 (Nat.ne_of_lt (Nat.lt_of_lt_of_le V_r0.lt (Nat.le_of_eq g101.symm)))).other W376 (Nat.ne_of_lt (Nat.lt_of_lt_of_le V_r0.lt (Nat.le_of_eq g101.symm))))
      obtain ⟨cl380, Ar380, qk380, Sz380, Nz380, Hh380, Gg380⟩ := id Fc379
      have hin381 : ¬ (w3tt_ < 0 ∨ cl380.slots.size ≤ (w3tt_).toNatClampNeg) := inb_of Sz380 (own_b3 hWw3tt_)
      obtain ⟨T382, h382, X382, e382, W382, st382⟩ := stI X376 hx hZ e376 Ar380 (j := w3tt_) hin381 (g := (mkF m 138 #[oR r0, oR r1, oI 3, oR b101, oI 1, oI 1, oI w3tt_, oI 3] [(.int 1), (.int w3tt_), (.ref r0)])) rfl rfl (hb hby d1_138)
      have Va382 := Arv.set Ar380 qk380 Sz380 Nz380 Hh380 Gg380 rfl W382 (w3tt_).toNatClampNeg rfl (own_l3 hWw3tt_)
      have Vs382 : Arv Z h382 r0 ka .int (3 : Int32) [(.int n0tt_), (.int n1tt_), (.int n2tt_)] (.int 0) := by rw [← (by rw [hn0tt_, hn1tt_, hn2tt_]; exact own_s3 hWw3tt_ : ([(.int n0t_), (.int n1t_), (.int n2t_)] : List Value).set (w3tt_).toNatClampNeg (.int 1) = [(.int n0tt_), (.int n1tt_), (.int n2tt_)])]; exact Va382
      have N382 := Fr.snoc X382 N376 g_r0
      have ZZ383 : n0 ≤ h382.size := Nat.le_trans ZZ377 (Nat.le_of_eq W382.size.symm)
      have KK384 : Keep h0 h382 [r0] := KK378.wr W382 (Or.inl (List.mem_of_getElem? (i := 0) rfl))
      have Fc385 := (Va376.other W382 (Ne.symm (Nat.ne_of_lt (Nat.lt_of_lt_of_le V_r0.lt (Nat.le_of_eq g101.symm)))))
      obtain ⟨cl386, Ar386, qk386, Sz386, Nz386, Hh386, Gg386⟩ := id Fc385
      have hin387 : ¬ ((2 : Int32) < 0 ∨ cl386.slots.size ≤ ((2 : Int32)).toNatClampNeg) := inb_of Sz386 ⟨by decide, by decide⟩
      have hat387 : cl386.slots[((2 : Int32)).toNatClampNeg]? = some (.int d2tt_) := Has.at Hh386 hin387 rfl
      have hN : 0 < own_at d0tt_ (d1tt_ + (1 : Int32)) d2tt_ 2 := by
        have q := own_N3 x y z ra0 ra1 ra2
        rw [H2, H1, H0] at q
        exact q he0 he1
      have he2 : (0 : Int32) < d2tt_ := hN
      have H3 : own_F3 x y z ma0 ma1 ma2 = (⟨d0tt_, (d1tt_ + (1 : Int32)), d2tt_, n0tt_, n1tt_, n2tt_, (1 : Int32)⟩ : own_St) := own_F3p H2 he2
      obtain ⟨fs, hr, hrun, hended, hW, hsame⟩ := X382.leave (v := some (.int 1)) (fun h => by rw [Bd.returns] at h; cases h)
      refine ⟨_, _, pre0 _ (pre366 _ ?_), hrun, hended, _, _, rfl, ?_, ⟨_, rfl⟩, hW, hsame.mono (by decide) (by decide)⟩
      · show own_S p e below T298 m 109 #[oR r0, oR r1, oI 3, oR b101, oI 1, oI 1, oI w3tt_, oI 2] [] _
        refine XS.iinc X298.here hx rfl (hb hby d1_109) rfl (l' := #[oR r0, oR r1, oI 3, oR b101, oI 1, oI 1, oI w3tt_, oI 3]) rfl ?_
        show own_S p e below T298 m 112 #[oR r0, oR r1, oI 3, oR b101, oI 1, oI 1, oI w3tt_, oI 3] [] _
        refine XS.goto X298.here hx rfl (pc0 := 112) (pc' := 71) rfl (hb hby d1_112) (by decide) (by decide) ?_
        show own_S p e below T298 m 71 _ [] _
        refine XS.iload X298.here hx rfl (hb hby d1_71) rfl ?_
        show own_S p e below T298 m 73 _ [(.int 3)] _
        refine XS.aloadN X298.here hx rfl (hb hby d1_73) rfl rfl ?_
        show own_S p e below T298 m 74 _ [(.ref r0), (.int 3)] _
        refine X298.arraylength hx (by rw [e298]; exact Ar346.1) (State.isArrayOf_alike hZ.alike Ar346.2.1) (g := (mkF m 74 #[oR r0, oR r1, oI 3, oR b101, oI 1, oI 1, oI w3tt_, oI 3] [(.ref r0), (.int 3)])) rfl rfl (hb hby d1_74) _ ?_
        rw [len_of Sz346 Nz346]
        show own_S p e below T298 m 75 _ [(.int 3), (.int 3)] _
        refine XS.icmpYes X298.here hx rfl (pc0 := 75) (pc' := 115) rfl (hb hby d1_75) rfl (flt (by decide : ¬ ((3 : Int32) < (3 : Int32)))).2.1 (by decide) (by decide) ?_
        show own_S p e below T298 m 115 _ [] _
        refine XS.aloadN X298.here hx rfl (hb hby d1_115) rfl rfl ?_
        show own_S p e below T298 m 116 _ [(.ref b101)] _
        refine XS.aloadN X298.here hx rfl (hb hby d1_116) rfl rfl ?_
        show own_S p e below T298 m 117 #[oR r0, oR r1, oI 3, oR b101, oI 1, oI 1, oI w3tt_, oI 3] [(.ref r0), (.ref b101)] _
        refine XS.iload X298.here hx rfl (hb hby d1_117) rfl ?_
        show own_S p e below T298 m 119 _ [(.int w3tt_), (.ref r0), (.ref b101)] _
        refine X298.iaload hx (j := w3tt_) (v := (.int mwtt_)) (by rw [e298]; exact Ar346.1) (State.isArrayOf_alike hZ.alike Ar346.2.1) Ar346.2.2 hin367 hat367 (g := (mkF m 119 #[oR r0, oR r1, oI 3, oR b101, oI 1, oI 1, oI w3tt_, oI 3] [(.int w3tt_), (.ref r0), (.ref b101)])) rfl rfl (hb hby d1_119) _ ?_
        show own_S p e below T298 m 120 _ [(.int mwtt_), (.ref b101)] _
        jvm_step X298.here [X298.here.top, hx, (hb hby d1_120), Value.category]
        show own_S p e below T298 m 121 #[oR r0, oR r1, oI 3, oR b101, oI 1, oI 1, oI w3tt_, oI 3] [(.int mwtt_), (.ref b101), (.int mwtt_), (.ref b101)] _
        refine X298.iaload hx (j := mwtt_) (v := (.int (own_at (d0t_ + (1 : Int32)) d1t_ d2t_ mwtt_))) (by rw [e298]; exact Ar302.1) (State.isArrayOf_alike hZ.alike Ar302.2.1) Ar302.2.2 hin368 hat368 (g := (mkF m 121 #[oR r0, oR r1, oI 3, oR b101, oI 1, oI 1, oI w3tt_, oI 3] [(.int mwtt_), (.ref b101), (.int mwtt_), (.ref b101)])) rfl rfl (hb hby d1_121) _ ?_
        show own_S p e below T298 m 122 _ [(.int (own_at (d0t_ + (1 : Int32)) d1t_ d2t_ mwtt_)), (.int mwtt_), (.ref b101)] _
        refine XS.iconst X298.here hx rfl (hb hby d1_122) ?_
        show own_S p e below T298 m 123 _ [(.int 1), (.int (own_at (d0t_ + (1 : Int32)) d1t_ d2t_ mwtt_)), (.int mwtt_), (.ref b101)] _
        refine XS.isub X298.here hx rfl (hb hby d1_123) rfl ?_
        show own_S p e below T298 m 124 _ [(.int ((own_at (d0t_ + (1 : Int32)) d1t_ d2t_ mwtt_) - (1 : Int32))), (.int mwtt_), (.ref b101)] _
        refine st370 _ ?_
        show own_S p e below T370 m 125 _ [] _
        refine XS.aloadN X370.here hx rfl (hb hby d1_125) rfl rfl ?_
        show own_S p e below T370 m 126 _ [(.ref b101)] _
        refine XS.iload X370.here hx rfl (hb hby d1_126) rfl ?_
        show own_S p e below T370 m 128 _ [(.int 1), (.ref b101)] _
        jvm_step X370.here [X370.here.top, hx, (hb hby d1_128), Value.category]
        show own_S p e below T370 m 129 #[oR r0, oR r1, oI 3, oR b101, oI 1, oI 1, oI w3tt_, oI 3] [(.int 1), (.ref b101), (.int 1), (.ref b101)] _
        refine X370.iaload hx (j := (1 : Int32)) (v := (.int d1tt_)) (by rw [e370]; exact Ar373.1) (State.isArrayOf_alike hZ.alike Ar373.2.1) Ar373.2.2 hin374 hat374 (g := (mkF m 129 #[oR r0, oR r1, oI 3, oR b101, oI 1, oI 1, oI w3tt_, oI 3] [(.int 1), (.ref b101), (.int 1), (.ref b101)])) rfl rfl (hb hby d1_129) _ ?_
        show own_S p e below T370 m 130 _ [(.int d1tt_), (.int 1), (.ref b101)] _
        refine XS.iconst X370.here hx rfl (hb hby d1_130) ?_
        show own_S p e below T370 m 131 _ [(.int 1), (.int d1tt_), (.int 1), (.ref b101)] _
        refine XS.iadd X370.here hx rfl (hb hby d1_131) rfl ?_
        show own_S p e below T370 m 132 _ [(.int (d1tt_ + (1 : Int32))), (.int 1), (.ref b101)] _
        refine st376 _ ?_
        show own_S p e below T376 m 133 _ [] _
        refine XS.aloadN X376.here hx rfl (hb hby d1_133) rfl rfl ?_
        show own_S p e below T376 m 134 _ [(.ref r0)] _
        refine XS.iload X376.here hx rfl (hb hby d1_134) rfl ?_
        show own_S p e below T376 m 136 _ [(.int w3tt_), (.ref r0)] _
        refine XS.iload X376.here hx rfl (hb hby d1_136) rfl ?_
        show own_S p e below T376 m 138 #[oR r0, oR r1, oI 3, oR b101, oI 1, oI 1, oI w3tt_, oI 3] [(.int 1), (.int w3tt_), (.ref r0)] _
        refine st382 _ ?_
        show own_S p e below T382 m 139 _ [] _
        refine XS.iconst X382.here hx rfl (hb hby d1_139) ?_
        show own_S p e below T382 m 140 _ [(.int 1)] _
        refine XS.istore X382.here hx rfl (hb hby d1_140) rfl (l' := #[oR r0, oR r1, oI 3, oR b101, oI 1, oI 1, oI w3tt_, oI 3]) rfl ?_
        show own_S p e below T382 m 142 _ [] _
        refine XS.iinc X382.here hx rfl (hb hby d1_142) rfl (l' := #[oR r0, oR r1, oI 3, oR b101, oI 1, oI 2, oI w3tt_, oI 3]) rfl ?_
        show own_S p e below T382 m 145 #[oR r0, oR r1, oI 3, oR b101, oI 1, oI 2, oI w3tt_, oI 3] [] _
        refine XS.goto X382.here hx rfl (pc0 := 145) (pc' := 49) rfl (hb hby d1_145) (by decide) (by decide) ?_
        show own_S p e below T382 m 49 _ [] _
        refine XS.iload X382.here hx rfl (hb hby d1_49) rfl ?_
        show own_S p e below T382 m 51 _ [(.int 2)] _
        refine XS.iloadN X382.here hx rfl (hb hby d1_51) rfl ?_
        show own_S p e below T382 m 52 _ [(.int 3), (.int 2)] _
        refine XS.icmpNo X382.here hx rfl (hb hby d1_52) rfl (tlt (by decide : (2 : Int32) < (3 : Int32))).2.1 ?_
        show own_S p e below T382 m 55 _ [] _
        refine XS.aloadN X382.here hx rfl (hb hby d1_55) rfl rfl ?_
        show own_S p e below T382 m 56 _ [(.ref b101)] _
        refine XS.iload X382.here hx rfl (hb hby d1_56) rfl ?_
        show own_S p e below T382 m 58 _ [(.int 2), (.ref b101)] _
        refine X382.iaload hx (j := (2 : Int32)) (v := (.int d2tt_)) (by rw [e382]; exact Ar386.1) (State.isArrayOf_alike hZ.alike Ar386.2.1) Ar386.2.2 hin387 hat387 (g := (mkF m 58 #[oR r0, oR r1, oI 3, oR b101, oI 1, oI 2, oI w3tt_, oI 3] [(.int 2), (.ref b101)])) rfl rfl (hb hby d1_58) _ ?_
        show own_S p e below T382 m 59 #[oR r0, oR r1, oI 3, oR b101, oI 1, oI 2, oI w3tt_, oI 3] [(.int d2tt_)] _
        refine XS.ifNo X382.here hx rfl (hb hby d1_59) rfl ((if0 _ _).trans (tlt (he2 : (0 : Int32) < d2tt_)).2.2.2) ?_
        show own_S p e below T382 m 62 _ [] _
        refine XS.goto X382.here hx rfl (pc0 := 62) (pc' := 142) rfl (hb hby d1_62) (by decide) (by decide) ?_
        show own_S p e below T382 m 142 _ [] _
        refine XS.iinc X382.here hx rfl (hb hby d1_142) rfl (l' := #[oR r0, oR r1, oI 3, oR b101, oI 1, oI 3, oI w3tt_, oI 3]) rfl ?_
        show own_S p e below T382 m 145 #[oR r0, oR r1, oI 3, oR b101, oI 1, oI 3, oI w3tt_, oI 3] [] _
        refine XS.goto X382.here hx rfl (pc0 := 145) (pc' := 49) rfl (hb hby d1_145) (by decide) (by decide) ?_
        show own_S p e below T382 m 49 _ [] _
        refine XS.iload X382.here hx rfl (hb hby d1_49) rfl ?_
        show own_S p e below T382 m 51 _ [(.int 3)] _
        refine XS.iloadN X382.here hx rfl (hb hby d1_51) rfl ?_
        show own_S p e below T382 m 52 _ [(.int 3), (.int 3)] _
        refine XS.icmpYes X382.here hx rfl (pc0 := 52) (pc' := 148) rfl (hb hby d1_52) rfl (flt (by decide : ¬ ((3 : Int32) < (3 : Int32)))).2.1 (by decide) (by decide) ?_
        show own_S p e below T382 m 148 _ [] _
        refine XS.iload X382.here hx rfl (hb hby d1_148) rfl ?_
        show own_S p e below T382 m 150 _ [(.int 1)] _
        exact retN X382 hx (t := .boolean) Bd.returns (by simp) (hb hby d1_150) hr
      · show Qf3 Z r0 r1 ka kb ma0 ma1 ma2 f0 f1 f2 x y z h0 n0 _ T382.heap _
        rw [e382]
        exact ⟨n0tt_, n1tt_, n2tt_, (1 : Int32), rfl, N382, KK384, Vs382, (by rw [H3]; exact ⟨rfl, rfl, rfl, rfl⟩)⟩
theorem own_k3 (p : Int32) : ((1 : Int32) + ((p &&& (2147483647 : Int32)) % (3 : Int32))) = 1 ∨ ((1 : Int32) + ((p &&& (2147483647 : Int32)) % (3 : Int32))) = 2 ∨ ((1 : Int32) + ((p &&& (2147483647 : Int32)) % (3 : Int32))) = 3 := by
  rcases own_rem3 p with q | q | q <;> rw [q] <;> decide
theorem own_cl {u v : Int32} {b : Bool} (hb1 : b = decide (u.toInt < v.toInt)) : ((cmpValue (FP.dcmp (FP.i2d u) (FP.i2d v)) .g) < (0 : Int32) ↔ b = true) ∧ ((0 : Int32) < (cmpValue (FP.dcmp (FP.i2d v) (FP.i2d u)) .g) ↔ b = true) := by
  rw [own_icmp (FP.Core.i2d_int u) (FP.Core.i2d_int v), own_icmp (FP.Core.i2d_int v) (FP.Core.i2d_int u), hb1]
  rcases Int.lt_trichotomy u.toInt v.toInt with q | q | q
  · rw [if_pos q, if_neg (by omega), if_neg (by omega)]; simp [q]
  · rw [if_neg (by omega), if_pos q, if_neg (by omega), if_pos q.symm]; simp [q]
  · rw [if_neg (by omega), if_neg (by omega), if_pos q]; simp [show ¬ u.toInt < v.toInt by omega]
theorem pd0 : parseMethodDescriptor "([I[DI)Z" = some ⟨[(.array .int), (.array .double), .int], some .boolean⟩ := by decide +kernel
theorem pd1 : parseMethodDescriptor "(ZZZDDD)I" = some ⟨[.boolean, .boolean, .boolean, .double, .double, .double], some .int⟩ := by decide +kernel
theorem efm0 (m : MethodId) (p0 : Int32) (p1 : Int32) (p2 : Int32) (p3 : Int32) (p4 : Int32) : entryFrame m #[(.int p0), (.int p1), (.int p2), (.int p3), (.int p4)] maxLocals = mkF m 0 #[oI p0, oI p1, oI p2, oI p3, oI p4, oU, oU, oU, oU, oU, oU, oU, oU, oU, oU, oU, oU, oU, oU, oU, oU, oU, oU, oU] [] := by first | (simp [entryFrame, mkF, argsToLocals, Value.category, maxLocals]; done) | rfl
def Qm0 (Z : State) (p0 : Int32) (p1 : Int32) (p2 : Int32) (p3 : Int32) (p4 : Int32) (h0 : Heap) (n0 : Nat) (v : Option Value) (h : Heap) (L : List Loc) : Prop := v = some (.int 1) ∧ Fr n0 L
set_option maxRecDepth 65536 in
set_option maxHeartbeats 40000000 in
theorem rmm0 (l : Launch) (Z : State) (a0 : Array Value) (hw : ∀ d ∈ tables_1, d.before a0 Z = true) (ws : List Jvm.Cond) (p0 : Int32) (p1 : Int32) (p2 : Int32) (p3 : Int32) (p4 : Int32) (h0 : Heap) (n0 : Nat) (Z0 : n0 ≤ h0.size)  :
    MetFree l x (head1 (Jvm.Cond.code x code maxLocals ret :: ws) room_1) (fun a U => a = #[(.int p0), (.int p1), (.int p2), (.int p3), (.int p4)] ∧ Z.Warmed39 U.vm ∧ U.heap = h0) (fun _ _ _ _ _ => True) (fun _ U o U' => ∃ v L, o = .returned v ∧ Qm0 Z p0 p1 p2 p3 p4 h0 n0 v U'.heap L ∧ FrameEnd U o U' L room_1.cells room_1.slots) := by
  refine MetFree.of_bodySF (plainFor_of_name pn0) hisR ?_
  intro p e s m args below meth c s₁ Bd hml0 hP hK
  obtain ⟨rfl, hZ, hh⟩ := hP
  have hx := Bd.exec
  have hby := Bd.bytes
  have hml : c.maxLocals = 24 := hml0
  have hown : s.vm.findClass "com/example/metasearch/metasearch/EmptyClustersFillPinLaw" = some m.cls := findClass_of_methodNamed Bd.named
  have hnm := (name_of_methodNamed Bd.named Bd.method).1
  have X0 : Stand p l e room_1 s m #[(.int p0), (.int p1), (.int p2), (.int p3), (.int p4)] below meth c s₁ [] 0 0 := Stand.of_body Bd
  have e0 : s₁.heap = h0 := by rw [← hh, Bd.state]; rfl
  have N0 := Fr.nil n0
  have pre0 : ∀ t, Steps p.tables e below (s₁.setTop (mkF m 0 #[oI p0, oI p1, oI p2, oI p3, oI p4, oU, oU, oU, oU, oU, oU, oU, oU, oU, oU, oU, oU, oU, oU, oU, oU, oU, oU, oU] [])) t → Steps p.tables e below (s₁.setTop (entryFrame m #[(.int p0), (.int p1), (.int p2), (.int p3), (.int p4)] maxLocals)) t := fun t k => castTop (efm0 m p0 p1 p2 p3 p4) k
  have hk3 := own_k3 p0
  obtain ⟨v0, hv0⟩ : ∃ zz, zz = ((p4 &&& (7 : Int32)) - (3 : Int32)) := ⟨_, rfl⟩
  obtain ⟨v1, hv1⟩ : ∃ zz, zz = ((((p4.toUInt32 >>> ((3 : Int32) &&& 31).toUInt32).toInt32) &&& (7 : Int32)) - (3 : Int32)) := ⟨_, rfl⟩
  obtain ⟨v2, hv2⟩ : ∃ zz, zz = ((((p4.toUInt32 >>> ((6 : Int32) &&& 31).toUInt32).toInt32) &&& (7 : Int32)) - (3 : Int32)) := ⟨_, rfl⟩
  obtain ⟨x, hx0⟩ : ∃ b, b = decide (v1.toInt < v0.toInt) := ⟨_, rfl⟩
  obtain ⟨y, hy0⟩ : ∃ b, b = decide (v2.toInt < v0.toInt) := ⟨_, rfl⟩
  obtain ⟨z, hz0⟩ : ∃ b, b = decide (v2.toInt < v1.toInt) := ⟨_, rfl⟩
  obtain ⟨lx, gx⟩ := own_cl hx0
  obtain ⟨ly, gy⟩ := own_cl hy0
  obtain ⟨lz, gz⟩ := own_cl hz0
  have pre101 : ∀ t, Steps p.tables e below (s₁.setTop (mkF m 8 #[oI p0, oI p1, oI p2, oI p3, oI p4, oU, oU, oU, oU, oU, oU, oU, oU, oU, oU, oU, oU, oU, oU, oU, oU, oU, oU, oU] [(.int ((1 : Int32) + ((p0 &&& (2147483647 : Int32)) % (3 : Int32))))])) t → Steps p.tables e below (s₁.setTop (mkF m 0 #[oI p0, oI p1, oI p2, oI p3, oI p4, oU, oU, oU, oU, oU, oU, oU, oU, oU, oU, oU, oU, oU, oU, oU, oU, oU, oU, oU] [])) t := by
    intro t kt
    show own_S p e below s₁ m 0 #[oI p0, oI p1, oI p2, oI p3, oI p4, oU, oU, oU, oU, oU, oU, oU, oU, oU, oU, oU, oU, oU, oU, oU, oU, oU, oU, oU] [] _
    refine XS.iconst X0.here hx rfl (hb hby at_0) ?_
    show own_S p e below s₁ m 1 _ [(.int 1)] _
    refine XS.iloadN X0.here hx rfl (hb hby at_1) rfl ?_
    show own_S p e below s₁ m 2 _ [(.int p0), (.int 1)] _
    refine X0.ldcInt hx hown (mvT hZ (own_w hw 0 rfl)) (g := (mkF m 2 #[oI p0, oI p1, oI p2, oI p3, oI p4, oU, oU, oU, oU, oU, oU, oU, oU, oU, oU, oU, oU, oU, oU, oU, oU, oU, oU, oU] [(.int p0), (.int 1)])) rfl (hb hby at_2) _ ?_
    show own_S p e below s₁ m 4 _ [(.int 2147483647), (.int p0), (.int 1)] _
    refine XS.iand X0.here hx rfl (hb hby at_4) rfl ?_
    show own_S p e below s₁ m 5 _ [(.int (p0 &&& (2147483647 : Int32))), (.int 1)] _
    refine XS.iconst X0.here hx rfl (hb hby at_5) ?_
    show own_S p e below s₁ m 6 _ [(.int 3), (.int (p0 &&& (2147483647 : Int32))), (.int 1)] _
    refine iremM (g := (mkF m 6 #[oI p0, oI p1, oI p2, oI p3, oI p4, oU, oU, oU, oU, oU, oU, oU, oU, oU, oU, oU, oU, oU, oU, oU, oU, oU, oU, oU] [(.int 3), (.int (p0 &&& (2147483647 : Int32))), (.int 1)])) X0 hx rfl (hb hby at_6) rfl (by decide) ?_
    show own_S p e below s₁ m 7 _ [(.int ((p0 &&& (2147483647 : Int32)) % (3 : Int32))), (.int 1)] _
    refine XS.iadd X0.here hx rfl (hb hby at_7) rfl ?_
    exact kt
  rcases hk3 with hk | hk | hk
  · skip
    obtain ⟨ma0, hma0⟩ : ∃ zz, zz = ((p1 &&& (2147483647 : Int32)) % (1 : Int32)) := ⟨_, rfl⟩
    have ra0 : (ma0 = 0) := by rw [hma0]; exact own_rem1 p1
    obtain ⟨ma1, hma1⟩ : ∃ zz, zz = ((p2 &&& (2147483647 : Int32)) % (1 : Int32)) := ⟨_, rfl⟩
    have ra1 : (ma1 = 0) := by rw [hma1]; exact own_rem1 p2
    obtain ⟨ma2, hma2⟩ : ∃ zz, zz = ((p3 &&& (2147483647 : Int32)) % (1 : Int32)) := ⟨_, rfl⟩
    have ra2 : (ma2 = 0) := by rw [hma2]; exact own_rem1 p3
    obtain ⟨T102, h102, k102, X102, e102, E102, A102, st102⟩ := newP X0 hx hZ (own_w hw 1 rfl) e0 (g := (mkF m 73 #[oI p0, oI p1, oI p2, oI p3, oI p4, oI 1, oI ma0, oI ma1, oI ma2, oD (FP.i2d v0), oV, oD (FP.i2d v1), oV, oD (FP.i2d v2), oV, oU, oU, oU, oU, oU, oU, oU, oU, oU] [(.int 3)])) rfl (hb hby at_73) rfl (by decide) (cap := 3) (by decide) (by decide) (by decide) (by decide)
    obtain ⟨b102, g102⟩ : ∃ z, z = h0.size := ⟨_, rfl⟩
    rw [← g102] at A102 st102
    have g_b102 : n0 ≤ b102 := Nat.le_trans Z0 (Nat.le_of_eq g102.symm)
    have ZZ103 : n0 ≤ h102.size := Nat.le_trans Z0 E102.1
    have V_b102 : Arv Z h102 b102 k102 .int (3 : Int32) [(.int 0), (.int 0), (.int 0)] (.int 0) := (Arv.new A102 (by decide)).pad (pad_rep [] (.int 0) 3)
    obtain ⟨cl104, Ar104, qk104, Sz104, Nz104, Hh104, Gg104⟩ := id V_b102
    have hin105 : ¬ ((0 : Int32) < 0 ∨ cl104.slots.size ≤ ((0 : Int32)).toNatClampNeg) := inb_of Sz104 ⟨by decide, by decide⟩
    obtain ⟨T106, h106, X106, e106, W106, st106⟩ := stI X102 hx hZ e102 Ar104 (j := (0 : Int32)) hin105 (g := (mkF m 79 #[oI p0, oI p1, oI p2, oI p3, oI p4, oI 1, oI ma0, oI ma1, oI ma2, oD (FP.i2d v0), oV, oD (FP.i2d v1), oV, oD (FP.i2d v2), oV, oU, oU, oU, oU, oU, oU, oU, oU, oU] [(.int ma0), (.int 0), (.ref b102), (.ref b102)])) rfl rfl (hb hby at_79)
    have Va106 := Arv.set Ar104 qk104 Sz104 Nz104 Hh104 Gg104 rfl W106 0 rfl (Nat.le_of_ble_eq_true rfl)
    have N106 := Fr.snoc X106 N0 g_b102
    have ZZ107 : n0 ≤ h106.size := Nat.le_trans ZZ103 (Nat.le_of_eq W106.size.symm)
    obtain ⟨cl108, Ar108, qk108, Sz108, Nz108, Hh108, Gg108⟩ := id Va106
    have hin109 : ¬ ((1 : Int32) < 0 ∨ cl108.slots.size ≤ ((1 : Int32)).toNatClampNeg) := inb_of Sz108 ⟨by decide, by decide⟩
    obtain ⟨T110, h110, X110, e110, W110, st110⟩ := stI X106 hx hZ e106 Ar108 (j := (1 : Int32)) hin109 (g := (mkF m 84 #[oI p0, oI p1, oI p2, oI p3, oI p4, oI 1, oI ma0, oI ma1, oI ma2, oD (FP.i2d v0), oV, oD (FP.i2d v1), oV, oD (FP.i2d v2), oV, oU, oU, oU, oU, oU, oU, oU, oU, oU] [(.int ma1), (.int 1), (.ref b102), (.ref b102)])) rfl rfl (hb hby at_84)
    have Va110 := Arv.set Ar108 qk108 Sz108 Nz108 Hh108 Gg108 rfl W110 1 rfl (Nat.le_of_ble_eq_true rfl)
    have N110 := Fr.snoc X110 N106 g_b102
    have ZZ111 : n0 ≤ h110.size := Nat.le_trans ZZ107 (Nat.le_of_eq W110.size.symm)
    obtain ⟨cl112, Ar112, qk112, Sz112, Nz112, Hh112, Gg112⟩ := id Va110
    have hin113 : ¬ ((2 : Int32) < 0 ∨ cl112.slots.size ≤ ((2 : Int32)).toNatClampNeg) := inb_of Sz112 ⟨by decide, by decide⟩
    obtain ⟨T114, h114, X114, e114, W114, st114⟩ := stI X110 hx hZ e110 Ar112 (j := (2 : Int32)) hin113 (g := (mkF m 89 #[oI p0, oI p1, oI p2, oI p3, oI p4, oI 1, oI ma0, oI ma1, oI ma2, oD (FP.i2d v0), oV, oD (FP.i2d v1), oV, oD (FP.i2d v2), oV, oU, oU, oU, oU, oU, oU, oU, oU, oU] [(.int ma2), (.int 2), (.ref b102), (.ref b102)])) rfl rfl (hb hby at_89)
    have Va114 := Arv.set Ar112 qk112 Sz112 Nz112 Hh112 Gg112 rfl W114 2 rfl (Nat.le_of_ble_eq_true rfl)
    have N114 := Fr.snoc X114 N110 g_b102
    have ZZ115 : n0 ≤ h114.size := Nat.le_trans ZZ111 (Nat.le_of_eq W114.size.symm)
    obtain ⟨T116, h116, k116, X116, e116, E116, A116, st116⟩ := newP X114 hx hZ (own_w hw 2 rfl) e114 (g := (mkF m 93 #[oI p0, oI p1, oI p2, oI p3, oI p4, oI 1, oI ma0, oI ma1, oI ma2, oD (FP.i2d v0), oV, oD (FP.i2d v1), oV, oD (FP.i2d v2), oV, oR b102, oU, oU, oU, oU, oU, oU, oU, oU] [(.int 3)])) rfl (hb hby at_93) rfl (by decide) (cap := 3) (by decide) (by decide) (by decide) (by decide)
    obtain ⟨b116, g116⟩ : ∃ z, z = h114.size := ⟨_, rfl⟩
    rw [← g116] at A116 st116
    have g_b116 : n0 ≤ b116 := Nat.le_trans ZZ115 (Nat.le_of_eq g116.symm)
    have ZZ117 : n0 ≤ h116.size := Nat.le_trans ZZ115 E116.1
    have V_b116 : Arv Z h116 b116 k116 .double (3 : Int32) [(.double 0), (.double 0), (.double 0)] (.double 0) := (Arv.new A116 (by decide)).pad (pad_rep [] (.double 0) 3)
    obtain ⟨cl118, Ar118, qk118, Sz118, Nz118, Hh118, Gg118⟩ := id V_b116
    have hin119 : ¬ ((0 : Int32) < 0 ∨ cl118.slots.size ≤ ((0 : Int32)).toNatClampNeg) := inb_of Sz118 ⟨by decide, by decide⟩
    obtain ⟨T120, h120, X120, e120, W120, st120⟩ := stD X116 hx hZ e116 Ar118 (j := (0 : Int32)) hin119 (g := (mkF m 99 #[oI p0, oI p1, oI p2, oI p3, oI p4, oI 1, oI ma0, oI ma1, oI ma2, oD (FP.i2d v0), oV, oD (FP.i2d v1), oV, oD (FP.i2d v2), oV, oR b102, oU, oU, oU, oU, oU, oU, oU, oU] [(.double (FP.i2d v0)), (.int 0), (.ref b116), (.ref b116)])) rfl rfl (hb hby at_99)
    have Va120 := Arv.set Ar118 qk118 Sz118 Nz118 Hh118 Gg118 rfl W120 0 rfl (Nat.le_of_ble_eq_true rfl)
    have N120 := Fr.snoc X120 N114 g_b116
    have ZZ121 : n0 ≤ h120.size := Nat.le_trans ZZ117 (Nat.le_of_eq W120.size.symm)
    obtain ⟨cl122, Ar122, qk122, Sz122, Nz122, Hh122, Gg122⟩ := id Va120
    have hin123 : ¬ ((1 : Int32) < 0 ∨ cl122.slots.size ≤ ((1 : Int32)).toNatClampNeg) := inb_of Sz122 ⟨by decide, by decide⟩
    obtain ⟨T124, h124, X124, e124, W124, st124⟩ := stD X120 hx hZ e120 Ar122 (j := (1 : Int32)) hin123 (g := (mkF m 104 #[oI p0, oI p1, oI p2, oI p3, oI p4, oI 1, oI ma0, oI ma1, oI ma2, oD (FP.i2d v0), oV, oD (FP.i2d v1), oV, oD (FP.i2d v2), oV, oR b102, oU, oU, oU, oU, oU, oU, oU, oU] [(.double (FP.i2d v1)), (.int 1), (.ref b116), (.ref b116)])) rfl rfl (hb hby at_104)
    have Va124 := Arv.set Ar122 qk122 Sz122 Nz122 Hh122 Gg122 rfl W124 1 rfl (Nat.le_of_ble_eq_true rfl)
    have N124 := Fr.snoc X124 N120 g_b116
    have ZZ125 : n0 ≤ h124.size := Nat.le_trans ZZ121 (Nat.le_of_eq W124.size.symm)
    obtain ⟨cl126, Ar126, qk126, Sz126, Nz126, Hh126, Gg126⟩ := id Va124
    have hin127 : ¬ ((2 : Int32) < 0 ∨ cl126.slots.size ≤ ((2 : Int32)).toNatClampNeg) := inb_of Sz126 ⟨by decide, by decide⟩
    obtain ⟨T128, h128, X128, e128, W128, st128⟩ := stD X124 hx hZ e124 Ar126 (j := (2 : Int32)) hin127 (g := (mkF m 109 #[oI p0, oI p1, oI p2, oI p3, oI p4, oI 1, oI ma0, oI ma1, oI ma2, oD (FP.i2d v0), oV, oD (FP.i2d v1), oV, oD (FP.i2d v2), oV, oR b102, oU, oU, oU, oU, oU, oU, oU, oU] [(.double (FP.i2d v2)), (.int 2), (.ref b116), (.ref b116)])) rfl rfl (hb hby at_109)
    have Va128 := Arv.set Ar126 qk126 Sz126 Nz126 Hh126 Gg126 rfl W128 2 rfl (Nat.le_of_ble_eq_true rfl)
    have N128 := Fr.snoc X128 N124 g_b116
    have ZZ129 : n0 ≤ h128.size := Nat.le_trans ZZ125 (Nat.le_of_eq W128.size.symm)
    have Fc130 := ((((Va114.ext E116).other W120 (Nat.ne_of_lt (Nat.lt_of_lt_of_le Va114.lt (Nat.le_of_eq g116.symm)))).other W124 (Nat.ne_of_lt (Nat.lt_of_lt_of_le Va114.lt (Nat.le_of_eq g116.symm)))).other W128 (Nat.ne_of_lt (Nat.lt_of_lt_of_le Va114.lt (Nat.le_of_eq g116.symm))))
    obtain ⟨_, _, ⟨T131, L131, k131, n131⟩, -, X131, ⟨Lc131, hQ131, l131, y131, z131⟩, st131⟩ := Jvm.LawKit.callS X128 hx (y := (⟨"com/example/metasearch/metasearch/EmptyClusters", "fill", "([I[DI)Z"⟩ : MethodName)) hown (mvT hZ (own_w hw 3 rfl)) (mvT hZ (own_w hw 4 rfl)) (mvT hZ (own_w hw 5 rfl)) (mvT hZ (own_w hw 6 rfl)) (by decide) (backOf (W := 0) (rmf1 l Z a0 hw [] b102 b116 k102 k116 ma0 ma1 ma2 (FP.i2d v0) (FP.i2d v1) (FP.i2d v2) x y z h128 n0 ZZ129 Fc130 Va128 g_b102 (Ne.symm (Nat.ne_of_lt (Nat.lt_of_lt_of_le Va114.lt (Nat.le_of_eq g116.symm)))) ra0 ra1 ra2 lx ly lz) hZ (own_w hw 6 rfl) (own_w hw 5 rfl) (by decide) (by decide)) (g := (mkF m 118 #[oI p0, oI p1, oI p2, oI p3, oI p4, oI 1, oI ma0, oI ma1, oI ma2, oD (FP.i2d v0), oV, oD (FP.i2d v1), oV, oD (FP.i2d v2), oV, oR b102, oR b116, oU, oU, oU, oU, oU, oU, oU] [(.int 1), (.ref b116), (.ref b102)])) rfl (by rw [hml]; rfl) (argsL := [(.ref b102), (.ref b116), (.int 1)]) (rest := []) (lenOf pd0 rfl) rfl (by show 2 * 0 + _ ≤ _; exact Nat.le_of_eq rfl) (hb hby at_118) (fun _ _ => ⟨rfl, e128, (by decide : 2 + 1 ≤ _), (by decide : 6 + 1 ≤ _)⟩)
    dsimp only [Pt.U, Pt.locs, Pt.cells, Pt.slots] at X131 l131 y131 z131 st131 hQ131
    subst l131 y131 z131
    obtain ⟨o0_131, o1_131, o2_131, orr_131, rfl, Nq131, P131_0, P131_1, hPF⟩ := hQ131
    have N131 := Fr.app N128 Nq131
    have ZZ132 : n0 ≤ T131.heap.size := Nat.le_trans ZZ129 P131_0.1
    obtain ⟨T133, h133, k133, X133, e133, E133, A133, st133⟩ := newP X131 hx hZ (own_w hw 1 rfl) rfl (g := (mkF m 124 #[oI p0, oI p1, oI p2, oI p3, oI p4, oI 1, oI ma0, oI ma1, oI ma2, oD (FP.i2d v0), oV, oD (FP.i2d v1), oV, oD (FP.i2d v2), oV, oR b102, oR b116, oI orr_131, oU, oU, oU, oU, oU, oU] [(.int 3)])) rfl (hb hby at_124) rfl (by decide) (cap := 3) (by decide) (by decide) (by decide) (by decide)
    obtain ⟨b133, g133⟩ : ∃ z, z = T131.heap.size := ⟨_, rfl⟩
    rw [← g133] at A133 st133
    have g_b133 : n0 ≤ b133 := Nat.le_trans ZZ132 (Nat.le_of_eq g133.symm)
    have ZZ134 : n0 ≤ h133.size := Nat.le_trans ZZ132 E133.1
    have V_b133 : Arv Z h133 b133 k133 .int (3 : Int32) [(.int 0), (.int 0), (.int 0)] (.int 0) := (Arv.new A133 (by decide)).pad (pad_rep [] (.int 0) 3)
    obtain ⟨cl135, Ar135, qk135, Sz135, Nz135, Hh135, Gg135⟩ := id V_b133
    have hin136 : ¬ ((0 : Int32) < 0 ∨ cl135.slots.size ≤ ((0 : Int32)).toNatClampNeg) := inb_of Sz135 ⟨by decide, by decide⟩
    obtain ⟨T137, h137, X137, e137, W137, st137⟩ := stI X133 hx hZ e133 Ar135 (j := (0 : Int32)) hin136 (g := (mkF m 130 #[oI p0, oI p1, oI p2, oI p3, oI p4, oI 1, oI ma0, oI ma1, oI ma2, oD (FP.i2d v0), oV, oD (FP.i2d v1), oV, oD (FP.i2d v2), oV, oR b102, oR b116, oI orr_131, oU, oU, oU, oU, oU, oU] [(.int ma0), (.int 0), (.ref b133), (.ref b133)])) rfl rfl (hb hby at_130)
    have Va137 := Arv.set Ar135 qk135 Sz135 Nz135 Hh135 Gg135 rfl W137 0 rfl (Nat.le_of_ble_eq_true rfl)
    have N137 := Fr.snoc X137 N131 g_b133
    have ZZ138 : n0 ≤ h137.size := Nat.le_trans ZZ134 (Nat.le_of_eq W137.size.symm)
    obtain ⟨cl139, Ar139, qk139, Sz139, Nz139, Hh139, Gg139⟩ := id Va137
    have hin140 : ¬ ((1 : Int32) < 0 ∨ cl139.slots.size ≤ ((1 : Int32)).toNatClampNeg) := inb_of Sz139 ⟨by decide, by decide⟩
    obtain ⟨T141, h141, X141, e141, W141, st141⟩ := stI X137 hx hZ e137 Ar139 (j := (1 : Int32)) hin140 (g := (mkF m 135 #[oI p0, oI p1, oI p2, oI p3, oI p4, oI 1, oI ma0, oI ma1, oI ma2, oD (FP.i2d v0), oV, oD (FP.i2d v1), oV, oD (FP.i2d v2), oV, oR b102, oR b116, oI orr_131, oU, oU, oU, oU, oU, oU] [(.int ma1), (.int 1), (.ref b133), (.ref b133)])) rfl rfl (hb hby at_135)
    have Va141 := Arv.set Ar139 qk139 Sz139 Nz139 Hh139 Gg139 rfl W141 1 rfl (Nat.le_of_ble_eq_true rfl)
    have N141 := Fr.snoc X141 N137 g_b133
    have ZZ142 : n0 ≤ h141.size := Nat.le_trans ZZ138 (Nat.le_of_eq W141.size.symm)
    obtain ⟨cl143, Ar143, qk143, Sz143, Nz143, Hh143, Gg143⟩ := id Va141
    have hin144 : ¬ ((2 : Int32) < 0 ∨ cl143.slots.size ≤ ((2 : Int32)).toNatClampNeg) := inb_of Sz143 ⟨by decide, by decide⟩
    obtain ⟨T145, h145, X145, e145, W145, st145⟩ := stI X141 hx hZ e141 Ar143 (j := (2 : Int32)) hin144 (g := (mkF m 140 #[oI p0, oI p1, oI p2, oI p3, oI p4, oI 1, oI ma0, oI ma1, oI ma2, oD (FP.i2d v0), oV, oD (FP.i2d v1), oV, oD (FP.i2d v2), oV, oR b102, oR b116, oI orr_131, oU, oU, oU, oU, oU, oU] [(.int ma2), (.int 2), (.ref b133), (.ref b133)])) rfl rfl (hb hby at_140)
    have Va145 := Arv.set Ar143 qk143 Sz143 Nz143 Hh143 Gg143 rfl W145 2 rfl (Nat.le_of_ble_eq_true rfl)
    have N145 := Fr.snoc X145 N141 g_b133
    have ZZ146 : n0 ≤ h145.size := Nat.le_trans ZZ142 (Nat.le_of_eq W145.size.symm)
    have hE := own_E1 x y z ra0 ra1 ra2
    have Fc147 := ((((P131_1.ext E133).other W137 (Nat.ne_of_lt (Nat.lt_of_lt_of_le P131_1.lt (Nat.le_of_eq g133.symm)))).other W141 (Nat.ne_of_lt (Nat.lt_of_lt_of_le P131_1.lt (Nat.le_of_eq g133.symm)))).other W145 (Nat.ne_of_lt (Nat.lt_of_lt_of_le P131_1.lt (Nat.le_of_eq g133.symm))))
    obtain ⟨cl148, Ar148, qk148, Sz148, Nz148, Hh148, Gg148⟩ := id Fc147
    have hin149 : ¬ ((0 : Int32) < 0 ∨ cl148.slots.size ≤ ((0 : Int32)).toNatClampNeg) := inb_of Sz148 ⟨by decide, by decide⟩
    have hat149 : cl148.slots[((0 : Int32)).toNatClampNeg]? = some (.int o0_131) := Has.at Hh148 hin149 rfl
    obtain ⟨cl150, Ar150, qk150, Sz150, Nz150, Hh150, Gg150⟩ := id Va145
    have hin151 : ¬ ((0 : Int32) < 0 ∨ cl150.slots.size ≤ ((0 : Int32)).toNatClampNeg) := inb_of Sz150 ⟨by decide, by decide⟩
    have hat151 : cl150.slots[((0 : Int32)).toNatClampNeg]? = some (.int ma0) := Has.at Hh150 hin151 rfl
    have hin152 : ¬ ((1 : Int32) < 0 ∨ cl148.slots.size ≤ ((1 : Int32)).toNatClampNeg) := inb_of Sz148 ⟨by decide, by decide⟩
    have hat152 : cl148.slots[((1 : Int32)).toNatClampNeg]? = some (.int o1_131) := Has.at Hh148 hin152 rfl
    have hin153 : ¬ ((1 : Int32) < 0 ∨ cl150.slots.size ≤ ((1 : Int32)).toNatClampNeg) := inb_of Sz150 ⟨by decide, by decide⟩
    have hat153 : cl150.slots[((1 : Int32)).toNatClampNeg]? = some (.int ma1) := Has.at Hh150 hin153 rfl
    have hin154 : ¬ ((2 : Int32) < 0 ∨ cl148.slots.size ≤ ((2 : Int32)).toNatClampNeg) := inb_of Sz148 ⟨by decide, by decide⟩
    have hat154 : cl148.slots[((2 : Int32)).toNatClampNeg]? = some (.int o2_131) := Has.at Hh148 hin154 rfl
    have hin155 : ¬ ((2 : Int32) < 0 ∨ cl150.slots.size ≤ ((2 : Int32)).toNatClampNeg) := inb_of Sz150 ⟨by decide, by decide⟩
    have hat155 : cl150.slots[((2 : Int32)).toNatClampNeg]? = some (.int ma2) := Has.at Hh150 hin155 rfl
    have Fc156 := (((((Va128.keep P131_0 (ninS (Ne.symm (Nat.ne_of_lt (Nat.lt_of_lt_of_le Va114.lt (Nat.le_of_eq g116.symm)))) nin0)).ext E133).other W137 (Nat.ne_of_lt (Nat.lt_of_lt_of_le (Va128.keep P131_0 (ninS (Ne.symm (Nat.ne_of_lt (Nat.lt_of_lt_of_le Va114.lt (Nat.le_of_eq g116.symm)))) nin0)).lt (Nat.le_of_eq g133.symm)))).other W141 (Nat.ne_of_lt (Nat.lt_of_lt_of_le (Va128.keep P131_0 (ninS (Ne.symm (Nat.ne_of_lt (Nat.lt_of_lt_of_le Va114.lt (Nat.le_of_eq g116.symm)))) nin0)).lt (Nat.le_of_eq g133.symm)))).other W145 (Nat.ne_of_lt (Nat.lt_of_lt_of_le (Va128.keep P131_0 (ninS (Ne.symm (Nat.ne_of_lt (Nat.lt_of_lt_of_le Va114.lt (Nat.le_of_eq g116.symm)))) nin0)).lt (Nat.le_of_eq g133.symm))))
    obtain ⟨cl157, Ar157, qk157, Sz157, Nz157, Hh157, Gg157⟩ := id Fc156
    have hin158 : ¬ ((0 : Int32) < 0 ∨ cl157.slots.size ≤ ((0 : Int32)).toNatClampNeg) := inb_of Sz157 ⟨by decide, by decide⟩
    have hat158 : cl157.slots[((0 : Int32)).toNatClampNeg]? = some (.double (FP.i2d v0)) := Has.at Hh157 hin158 rfl
    have hin159 : ¬ ((1 : Int32) < 0 ∨ cl157.slots.size ≤ ((1 : Int32)).toNatClampNeg) := inb_of Sz157 ⟨by decide, by decide⟩
    have hat159 : cl157.slots[((1 : Int32)).toNatClampNeg]? = some (.double (FP.i2d v1)) := Has.at Hh157 hin159 rfl
    have hin160 : ¬ ((2 : Int32) < 0 ∨ cl157.slots.size ≤ ((2 : Int32)).toNatClampNeg) := inb_of Sz157 ⟨by decide, by decide⟩
    have hat160 : cl157.slots[((2 : Int32)).toNatClampNeg]? = some (.double (FP.i2d v2)) := Has.at Hh157 hin160 rfl
    obtain ⟨fs, hr, hrun, hended, hW, hsame⟩ := X145.leave (v := some (.int 1)) (fun h => by rw [Bd.returns] at h; cases h)
    refine ⟨_, _, pre0 _ (pre101 _ ?_), hrun, hended, _, _, rfl, ?_, ⟨_, rfl⟩, hW, hsame.mono (by decide) (by decide)⟩
    · show own_S p e below s₁ m 8 #[oI p0, oI p1, oI p2, oI p3, oI p4, oU, oU, oU, oU, oU, oU, oU, oU, oU, oU, oU, oU, oU, oU, oU, oU, oU, oU, oU] [(.int ((1 : Int32) + ((p0 &&& (2147483647 : Int32)) % (3 : Int32))))] _
      refine reI (hk : ((1 : Int32) + ((p0 &&& (2147483647 : Int32)) % (3 : Int32))) = (1 : Int32)) ?_
      show own_S p e below s₁ m 8 _ [(.int 1)] _
      refine XS.istore X0.here hx rfl (hb hby at_8) rfl (l' := #[oI p0, oI p1, oI p2, oI p3, oI p4, oI 1, oU, oU, oU, oU, oU, oU, oU, oU, oU, oU, oU, oU, oU, oU, oU, oU, oU, oU]) rfl ?_
      show own_S p e below s₁ m 10 #[oI p0, oI p1, oI p2, oI p3, oI p4, oI 1, oU, oU, oU, oU, oU, oU, oU, oU, oU, oU, oU, oU, oU, oU, oU, oU, oU, oU] [] _
      refine XS.iloadN X0.here hx rfl (hb hby at_10) rfl ?_
      show own_S p e below s₁ m 11 _ [(.int p1)] _
      refine X0.ldcInt hx hown (mvT hZ (own_w hw 0 rfl)) (g := (mkF m 11 #[oI p0, oI p1, oI p2, oI p3, oI p4, oI 1, oU, oU, oU, oU, oU, oU, oU, oU, oU, oU, oU, oU, oU, oU, oU, oU, oU, oU] [(.int p1)])) rfl (hb hby at_11) _ ?_
      show own_S p e below s₁ m 13 _ [(.int 2147483647), (.int p1)] _
      refine XS.iand X0.here hx rfl (hb hby at_13) rfl ?_
      show own_S p e below s₁ m 14 _ [(.int (p1 &&& (2147483647 : Int32)))] _
      refine XS.iload X0.here hx rfl (hb hby at_14) rfl ?_
      show own_S p e below s₁ m 16 _ [(.int 1), (.int (p1 &&& (2147483647 : Int32)))] _
      refine iremM (g := (mkF m 16 #[oI p0, oI p1, oI p2, oI p3, oI p4, oI 1, oU, oU, oU, oU, oU, oU, oU, oU, oU, oU, oU, oU, oU, oU, oU, oU, oU, oU] [(.int 1), (.int (p1 &&& (2147483647 : Int32)))])) X0 hx rfl (hb hby at_16) rfl (by decide) ?_
      show own_S p e below s₁ m 17 _ [(.int ((p1 &&& (2147483647 : Int32)) % (1 : Int32)))] _
      refine reI (hma0.symm : ((p1 &&& (2147483647 : Int32)) % (1 : Int32)) = ma0) ?_
      show own_S p e below s₁ m 17 _ [(.int ma0)] _
      refine XS.istore X0.here hx rfl (hb hby at_17) rfl (l' := #[oI p0, oI p1, oI p2, oI p3, oI p4, oI 1, oI ma0, oU, oU, oU, oU, oU, oU, oU, oU, oU, oU, oU, oU, oU, oU, oU, oU, oU]) rfl ?_
      show own_S p e below s₁ m 19 #[oI p0, oI p1, oI p2, oI p3, oI p4, oI 1, oI ma0, oU, oU, oU, oU, oU, oU, oU, oU, oU, oU, oU, oU, oU, oU, oU, oU, oU] [] _
      refine XS.iloadN X0.here hx rfl (hb hby at_19) rfl ?_
      show own_S p e below s₁ m 20 _ [(.int p2)] _
      refine X0.ldcInt hx hown (mvT hZ (own_w hw 0 rfl)) (g := (mkF m 20 #[oI p0, oI p1, oI p2, oI p3, oI p4, oI 1, oI ma0, oU, oU, oU, oU, oU, oU, oU, oU, oU, oU, oU, oU, oU, oU, oU, oU, oU] [(.int p2)])) rfl (hb hby at_20) _ ?_
      show own_S p e below s₁ m 22 _ [(.int 2147483647), (.int p2)] _
      refine XS.iand X0.here hx rfl (hb hby at_22) rfl ?_
      show own_S p e below s₁ m 23 _ [(.int (p2 &&& (2147483647 : Int32)))] _
      refine XS.iload X0.here hx rfl (hb hby at_23) rfl ?_
      show own_S p e below s₁ m 25 _ [(.int 1), (.int (p2 &&& (2147483647 : Int32)))] _
      refine iremM (g := (mkF m 25 #[oI p0, oI p1, oI p2, oI p3, oI p4, oI 1, oI ma0, oU, oU, oU, oU, oU, oU, oU, oU, oU, oU, oU, oU, oU, oU, oU, oU, oU] [(.int 1), (.int (p2 &&& (2147483647 : Int32)))])) X0 hx rfl (hb hby at_25) rfl (by decide) ?_
      show own_S p e below s₁ m 26 _ [(.int ((p2 &&& (2147483647 : Int32)) % (1 : Int32)))] _
      refine reI (hma1.symm : ((p2 &&& (2147483647 : Int32)) % (1 : Int32)) = ma1) ?_
      show own_S p e below s₁ m 26 _ [(.int ma1)] _
      refine XS.istore X0.here hx rfl (hb hby at_26) rfl (l' := #[oI p0, oI p1, oI p2, oI p3, oI p4, oI 1, oI ma0, oI ma1, oU, oU, oU, oU, oU, oU, oU, oU, oU, oU, oU, oU, oU, oU, oU, oU]) rfl ?_
      show own_S p e below s₁ m 28 #[oI p0, oI p1, oI p2, oI p3, oI p4, oI 1, oI ma0, oI ma1, oU, oU, oU, oU, oU, oU, oU, oU, oU, oU, oU, oU, oU, oU, oU, oU] [] _
      refine XS.iloadN X0.here hx rfl (hb hby at_28) rfl ?_
      show own_S p e below s₁ m 29 _ [(.int p3)] _
      refine X0.ldcInt hx hown (mvT hZ (own_w hw 0 rfl)) (g := (mkF m 29 #[oI p0, oI p1, oI p2, oI p3, oI p4, oI 1, oI ma0, oI ma1, oU, oU, oU, oU, oU, oU, oU, oU, oU, oU, oU, oU, oU, oU, oU, oU] [(.int p3)])) rfl (hb hby at_29) _ ?_
      show own_S p e below s₁ m 31 _ [(.int 2147483647), (.int p3)] _
      refine XS.iand X0.here hx rfl (hb hby at_31) rfl ?_
      show own_S p e below s₁ m 32 _ [(.int (p3 &&& (2147483647 : Int32)))] _
      refine XS.iload X0.here hx rfl (hb hby at_32) rfl ?_
      show own_S p e below s₁ m 34 _ [(.int 1), (.int (p3 &&& (2147483647 : Int32)))] _
      refine iremM (g := (mkF m 34 #[oI p0, oI p1, oI p2, oI p3, oI p4, oI 1, oI ma0, oI ma1, oU, oU, oU, oU, oU, oU, oU, oU, oU, oU, oU, oU, oU, oU, oU, oU] [(.int 1), (.int (p3 &&& (2147483647 : Int32)))])) X0 hx rfl (hb hby at_34) rfl (by decide) ?_
      show own_S p e below s₁ m 35 _ [(.int ((p3 &&& (2147483647 : Int32)) % (1 : Int32)))] _
      refine reI (hma2.symm : ((p3 &&& (2147483647 : Int32)) % (1 : Int32)) = ma2) ?_
      show own_S p e below s₁ m 35 _ [(.int ma2)] _
      refine XS.istore X0.here hx rfl (hb hby at_35) rfl (l' := #[oI p0, oI p1, oI p2, oI p3, oI p4, oI 1, oI ma0, oI ma1, oI ma2, oU, oU, oU, oU, oU, oU, oU, oU, oU, oU, oU, oU, oU, oU, oU]) rfl ?_
      show own_S p e below s₁ m 37 #[oI p0, oI p1, oI p2, oI p3, oI p4, oI 1, oI ma0, oI ma1, oI ma2, oU, oU, oU, oU, oU, oU, oU, oU, oU, oU, oU, oU, oU, oU, oU] [] _
      refine XS.iload X0.here hx rfl (hb hby at_37) rfl ?_
      show own_S p e below s₁ m 39 _ [(.int p4)] _
      refine XS.bipush X0.here hx rfl (hb hby at_39) ?_
      show own_S p e below s₁ m 41 _ [(.int 7), (.int p4)] _
      refine XS.iand X0.here hx rfl (hb hby at_41) rfl ?_
      show own_S p e below s₁ m 42 _ [(.int (p4 &&& (7 : Int32)))] _
      refine XS.iconst X0.here hx rfl (hb hby at_42) ?_
      show own_S p e below s₁ m 43 _ [(.int 3), (.int (p4 &&& (7 : Int32)))] _
      refine XS.isub X0.here hx rfl (hb hby at_43) rfl ?_
      show own_S p e below s₁ m 44 _ [(.int ((p4 &&& (7 : Int32)) - (3 : Int32)))] _
      refine reI (hv0.symm : ((p4 &&& (7 : Int32)) - (3 : Int32)) = v0) ?_
      show own_S p e below s₁ m 44 _ [(.int v0)] _
      refine XS.i2dS X0.here hx rfl (v := (FP.i2d v0)) (hb hby at_44) rfl rfl ?_
      show own_S p e below s₁ m 45 #[oI p0, oI p1, oI p2, oI p3, oI p4, oI 1, oI ma0, oI ma1, oI ma2, oU, oU, oU, oU, oU, oU, oU, oU, oU, oU, oU, oU, oU, oU, oU] [(.double (FP.i2d v0))] _
      refine XS.dstore X0.here hx rfl (hb hby at_45) rfl (l' := #[oI p0, oI p1, oI p2, oI p3, oI p4, oI 1, oI ma0, oI ma1, oI ma2, oD (FP.i2d v0), oV, oU, oU, oU, oU, oU, oU, oU, oU, oU, oU, oU, oU, oU]) rfl ?_
      show own_S p e below s₁ m 47 #[oI p0, oI p1, oI p2, oI p3, oI p4, oI 1, oI ma0, oI ma1, oI ma2, oD (FP.i2d v0), oV, oU, oU, oU, oU, oU, oU, oU, oU, oU, oU, oU, oU, oU] [] _
      refine XS.iload X0.here hx rfl (hb hby at_47) rfl ?_
      show own_S p e below s₁ m 49 _ [(.int p4)] _
      refine XS.iconst X0.here hx rfl (hb hby at_49) ?_
      show own_S p e below s₁ m 50 _ [(.int 3), (.int p4)] _
      refine XS.iushr X0.here hx rfl (hb hby at_50) rfl ?_
      show own_S p e below s₁ m 51 _ [(.int ((p4.toUInt32 >>> ((3 : Int32) &&& 31).toUInt32).toInt32))] _
      refine XS.bipush X0.here hx rfl (hb hby at_51) ?_
      show own_S p e below s₁ m 53 _ [(.int 7), (.int ((p4.toUInt32 >>> ((3 : Int32) &&& 31).toUInt32).toInt32))] _
      refine XS.iand X0.here hx rfl (hb hby at_53) rfl ?_
      show own_S p e below s₁ m 54 _ [(.int (((p4.toUInt32 >>> ((3 : Int32) &&& 31).toUInt32).toInt32) &&& (7 : Int32)))] _
      refine XS.iconst X0.here hx rfl (hb hby at_54) ?_
      show own_S p e below s₁ m 55 _ [(.int 3), (.int (((p4.toUInt32 >>> ((3 : Int32) &&& 31).toUInt32).toInt32) &&& (7 : Int32)))] _
      refine XS.isub X0.here hx rfl (hb hby at_55) rfl ?_
      show own_S p e below s₁ m 56 #[oI p0, oI p1, oI p2, oI p3, oI p4, oI 1, oI ma0, oI ma1, oI ma2, oD (FP.i2d v0), oV, oU, oU, oU, oU, oU, oU, oU, oU, oU, oU, oU, oU, oU] [(.int ((((p4.toUInt32 >>> ((3 : Int32) &&& 31).toUInt32).toInt32) &&& (7 : Int32)) - (3 : Int32)))] _
      refine reI (hv1.symm : ((((p4.toUInt32 >>> ((3 : Int32) &&& 31).toUInt32).toInt32) &&& (7 : Int32)) - (3 : Int32)) = v1) ?_
      show own_S p e below s₁ m 56 _ [(.int v1)] _
      refine XS.i2dS X0.here hx rfl (v := (FP.i2d v1)) (hb hby at_56) rfl rfl ?_
      show own_S p e below s₁ m 57 _ [(.double (FP.i2d v1))] _
      refine XS.dstore X0.here hx rfl (hb hby at_57) rfl (l' := #[oI p0, oI p1, oI p2, oI p3, oI p4, oI 1, oI ma0, oI ma1, oI ma2, oD (FP.i2d v0), oV, oD (FP.i2d v1), oV, oU, oU, oU, oU, oU, oU, oU, oU, oU, oU, oU]) rfl ?_
      show own_S p e below s₁ m 59 #[oI p0, oI p1, oI p2, oI p3, oI p4, oI 1, oI ma0, oI ma1, oI ma2, oD (FP.i2d v0), oV, oD (FP.i2d v1), oV, oU, oU, oU, oU, oU, oU, oU, oU, oU, oU, oU] [] _
      refine XS.iload X0.here hx rfl (hb hby at_59) rfl ?_
      show own_S p e below s₁ m 61 _ [(.int p4)] _
      refine XS.bipush X0.here hx rfl (hb hby at_61) ?_
      show own_S p e below s₁ m 63 _ [(.int 6), (.int p4)] _
      refine XS.iushr X0.here hx rfl (hb hby at_63) rfl ?_
      show own_S p e below s₁ m 64 _ [(.int ((p4.toUInt32 >>> ((6 : Int32) &&& 31).toUInt32).toInt32))] _
      refine XS.bipush X0.here hx rfl (hb hby at_64) ?_
      show own_S p e below s₁ m 66 _ [(.int 7), (.int ((p4.toUInt32 >>> ((6 : Int32) &&& 31).toUInt32).toInt32))] _
      refine XS.iand X0.here hx rfl (hb hby at_66) rfl ?_
      show own_S p e below s₁ m 67 _ [(.int (((p4.toUInt32 >>> ((6 : Int32) &&& 31).toUInt32).toInt32) &&& (7 : Int32)))] _
      refine XS.iconst X0.here hx rfl (hb hby at_67) ?_
      show own_S p e below s₁ m 68 _ [(.int 3), (.int (((p4.toUInt32 >>> ((6 : Int32) &&& 31).toUInt32).toInt32) &&& (7 : Int32)))] _
      refine XS.isub X0.here hx rfl (hb hby at_68) rfl ?_
      show own_S p e below s₁ m 69 #[oI p0, oI p1, oI p2, oI p3, oI p4, oI 1, oI ma0, oI ma1, oI ma2, oD (FP.i2d v0), oV, oD (FP.i2d v1), oV, oU, oU, oU, oU, oU, oU, oU, oU, oU, oU, oU] [(.int ((((p4.toUInt32 >>> ((6 : Int32) &&& 31).toUInt32).toInt32) &&& (7 : Int32)) - (3 : Int32)))] _
      refine reI (hv2.symm : ((((p4.toUInt32 >>> ((6 : Int32) &&& 31).toUInt32).toInt32) &&& (7 : Int32)) - (3 : Int32)) = v2) ?_
      show own_S p e below s₁ m 69 _ [(.int v2)] _
      refine XS.i2dS X0.here hx rfl (v := (FP.i2d v2)) (hb hby at_69) rfl rfl ?_
      show own_S p e below s₁ m 70 _ [(.double (FP.i2d v2))] _
      refine XS.dstore X0.here hx rfl (hb hby at_70) rfl (l' := #[oI p0, oI p1, oI p2, oI p3, oI p4, oI 1, oI ma0, oI ma1, oI ma2, oD (FP.i2d v0), oV, oD (FP.i2d v1), oV, oD (FP.i2d v2), oV, oU, oU, oU, oU, oU, oU, oU, oU, oU]) rfl ?_
      show own_S p e below s₁ m 72 #[oI p0, oI p1, oI p2, oI p3, oI p4, oI 1, oI ma0, oI ma1, oI ma2, oD (FP.i2d v0), oV, oD (FP.i2d v1), oV, oD (FP.i2d v2), oV, oU, oU, oU, oU, oU, oU, oU, oU, oU] [] _
      refine XS.iconst X0.here hx rfl (hb hby at_72) ?_
      show own_S p e below s₁ m 73 _ [(.int 3)] _
      refine st102 _ ?_
      show own_S p e below T102 m 75 _ [(.ref b102)] _
      refine XS.dup X102.here hx rfl (hb hby at_75) rfl rfl ?_
      show own_S p e below T102 m 76 _ [(.ref b102), (.ref b102)] _
      refine XS.iconst X102.here hx rfl (hb hby at_76) ?_
      show own_S p e below T102 m 77 _ [(.int 0), (.ref b102), (.ref b102)] _
      refine XS.iload X102.here hx rfl (hb hby at_77) rfl ?_
      show own_S p e below T102 m 79 _ [(.int ma0), (.int 0), (.ref b102), (.ref b102)] _
      refine st106 _ ?_
      show own_S p e below T106 m 80 _ [(.ref b102)] _
      refine XS.dup X106.here hx rfl (hb hby at_80) rfl rfl ?_
      show own_S p e below T106 m 81 #[oI p0, oI p1, oI p2, oI p3, oI p4, oI 1, oI ma0, oI ma1, oI ma2, oD (FP.i2d v0), oV, oD (FP.i2d v1), oV, oD (FP.i2d v2), oV, oU, oU, oU, oU, oU, oU, oU, oU, oU] [(.ref b102), (.ref b102)] _
      refine XS.iconst X106.here hx rfl (hb hby at_81) ?_
      show own_S p e below T106 m 82 _ [(.int 1), (.ref b102), (.ref b102)] _
      refine XS.iload X106.here hx rfl (hb hby at_82) rfl ?_
      show own_S p e below T106 m 84 _ [(.int ma1), (.int 1), (.ref b102), (.ref b102)] _
      refine st110 _ ?_
      show own_S p e below T110 m 85 _ [(.ref b102)] _
      refine XS.dup X110.here hx rfl (hb hby at_85) rfl rfl ?_
      show own_S p e below T110 m 86 _ [(.ref b102), (.ref b102)] _
      refine XS.iconst X110.here hx rfl (hb hby at_86) ?_
      show own_S p e below T110 m 87 _ [(.int 2), (.ref b102), (.ref b102)] _
      refine XS.iload X110.here hx rfl (hb hby at_87) rfl ?_
      show own_S p e below T110 m 89 _ [(.int ma2), (.int 2), (.ref b102), (.ref b102)] _
      refine st114 _ ?_
      show own_S p e below T114 m 90 #[oI p0, oI p1, oI p2, oI p3, oI p4, oI 1, oI ma0, oI ma1, oI ma2, oD (FP.i2d v0), oV, oD (FP.i2d v1), oV, oD (FP.i2d v2), oV, oU, oU, oU, oU, oU, oU, oU, oU, oU] [(.ref b102)] _
      refine XS.astore X114.here hx rfl (hb hby at_90) rfl rfl (l' := #[oI p0, oI p1, oI p2, oI p3, oI p4, oI 1, oI ma0, oI ma1, oI ma2, oD (FP.i2d v0), oV, oD (FP.i2d v1), oV, oD (FP.i2d v2), oV, oR b102, oU, oU, oU, oU, oU, oU, oU, oU]) rfl ?_
      show own_S p e below T114 m 92 #[oI p0, oI p1, oI p2, oI p3, oI p4, oI 1, oI ma0, oI ma1, oI ma2, oD (FP.i2d v0), oV, oD (FP.i2d v1), oV, oD (FP.i2d v2), oV, oR b102, oU, oU, oU, oU, oU, oU, oU, oU] [] _
      refine XS.iconst X114.here hx rfl (hb hby at_92) ?_
      show own_S p e below T114 m 93 _ [(.int 3)] _
      refine st116 _ ?_
      show own_S p e below T116 m 95 _ [(.ref b116)] _
      refine XS.dup X116.here hx rfl (hb hby at_95) rfl rfl ?_
      show own_S p e below T116 m 96 _ [(.ref b116), (.ref b116)] _
      refine XS.iconst X116.here hx rfl (hb hby at_96) ?_
      show own_S p e below T116 m 97 _ [(.int 0), (.ref b116), (.ref b116)] _
      refine XS.dload X116.here hx rfl (hb hby at_97) rfl ?_
      show own_S p e below T116 m 99 _ [(.double (FP.i2d v0)), (.int 0), (.ref b116), (.ref b116)] _
      refine st120 _ ?_
      show own_S p e below T120 m 100 _ [(.ref b116)] _
      refine XS.dup X120.here hx rfl (hb hby at_100) rfl rfl ?_
      show own_S p e below T120 m 101 #[oI p0, oI p1, oI p2, oI p3, oI p4, oI 1, oI ma0, oI ma1, oI ma2, oD (FP.i2d v0), oV, oD (FP.i2d v1), oV, oD (FP.i2d v2), oV, oR b102, oU, oU, oU, oU, oU, oU, oU, oU] [(.ref b116), (.ref b116)] _
      refine XS.iconst X120.here hx rfl (hb hby at_101) ?_
      show own_S p e below T120 m 102 _ [(.int 1), (.ref b116), (.ref b116)] _
      refine XS.dload X120.here hx rfl (hb hby at_102) rfl ?_
      show own_S p e below T120 m 104 _ [(.double (FP.i2d v1)), (.int 1), (.ref b116), (.ref b116)] _
      refine st124 _ ?_
      show own_S p e below T124 m 105 _ [(.ref b116)] _
      refine XS.dup X124.here hx rfl (hb hby at_105) rfl rfl ?_
      show own_S p e below T124 m 106 _ [(.ref b116), (.ref b116)] _
      refine XS.iconst X124.here hx rfl (hb hby at_106) ?_
      show own_S p e below T124 m 107 _ [(.int 2), (.ref b116), (.ref b116)] _
      refine XS.dload X124.here hx rfl (hb hby at_107) rfl ?_
      show own_S p e below T124 m 109 _ [(.double (FP.i2d v2)), (.int 2), (.ref b116), (.ref b116)] _
      refine st128 _ ?_
      show own_S p e below T128 m 110 #[oI p0, oI p1, oI p2, oI p3, oI p4, oI 1, oI ma0, oI ma1, oI ma2, oD (FP.i2d v0), oV, oD (FP.i2d v1), oV, oD (FP.i2d v2), oV, oR b102, oU, oU, oU, oU, oU, oU, oU, oU] [(.ref b116)] _
      refine XS.astore X128.here hx rfl (hb hby at_110) rfl rfl (l' := #[oI p0, oI p1, oI p2, oI p3, oI p4, oI 1, oI ma0, oI ma1, oI ma2, oD (FP.i2d v0), oV, oD (FP.i2d v1), oV, oD (FP.i2d v2), oV, oR b102, oR b116, oU, oU, oU, oU, oU, oU, oU]) rfl ?_
      show own_S p e below T128 m 112 #[oI p0, oI p1, oI p2, oI p3, oI p4, oI 1, oI ma0, oI ma1, oI ma2, oD (FP.i2d v0), oV, oD (FP.i2d v1), oV, oD (FP.i2d v2), oV, oR b102, oR b116, oU, oU, oU, oU, oU, oU, oU] [] _
      refine XS.aload X128.here hx rfl (hb hby at_112) rfl rfl ?_
      show own_S p e below T128 m 114 _ [(.ref b102)] _
      refine XS.aload X128.here hx rfl (hb hby at_114) rfl rfl ?_
      show own_S p e below T128 m 116 _ [(.ref b116), (.ref b102)] _
      refine XS.iload X128.here hx rfl (hb hby at_116) rfl ?_
      show own_S p e below T128 m 118 _ [(.int 1), (.ref b116), (.ref b102)] _
      refine st131 _ ?_
      show own_S p e below T131 m 121 _ [(.int orr_131)] _
      refine XS.istore X131.here hx rfl (hb hby at_121) rfl (l' := #[oI p0, oI p1, oI p2, oI p3, oI p4, oI 1, oI ma0, oI ma1, oI ma2, oD (FP.i2d v0), oV, oD (FP.i2d v1), oV, oD (FP.i2d v2), oV, oR b102, oR b116, oI orr_131, oU, oU, oU, oU, oU, oU]) rfl ?_
      show own_S p e below T131 m 123 #[oI p0, oI p1, oI p2, oI p3, oI p4, oI 1, oI ma0, oI ma1, oI ma2, oD (FP.i2d v0), oV, oD (FP.i2d v1), oV, oD (FP.i2d v2), oV, oR b102, oR b116, oI orr_131, oU, oU, oU, oU, oU, oU] [] _
      refine XS.iconst X131.here hx rfl (hb hby at_123) ?_
      show own_S p e below T131 m 124 _ [(.int 3)] _
      refine st133 _ ?_
      show own_S p e below T133 m 126 _ [(.ref b133)] _
      refine XS.dup X133.here hx rfl (hb hby at_126) rfl rfl ?_
      show own_S p e below T133 m 127 _ [(.ref b133), (.ref b133)] _
      refine XS.iconst X133.here hx rfl (hb hby at_127) ?_
      show own_S p e below T133 m 128 _ [(.int 0), (.ref b133), (.ref b133)] _
      refine XS.iload X133.here hx rfl (hb hby at_128) rfl ?_
      show own_S p e below T133 m 130 _ [(.int ma0), (.int 0), (.ref b133), (.ref b133)] _
      refine st137 _ ?_
      show own_S p e below T137 m 131 _ [(.ref b133)] _
      refine XS.dup X137.here hx rfl (hb hby at_131) rfl rfl ?_
      show own_S p e below T137 m 132 #[oI p0, oI p1, oI p2, oI p3, oI p4, oI 1, oI ma0, oI ma1, oI ma2, oD (FP.i2d v0), oV, oD (FP.i2d v1), oV, oD (FP.i2d v2), oV, oR b102, oR b116, oI orr_131, oU, oU, oU, oU, oU, oU] [(.ref b133), (.ref b133)] _
      refine XS.iconst X137.here hx rfl (hb hby at_132) ?_
      show own_S p e below T137 m 133 _ [(.int 1), (.ref b133), (.ref b133)] _
      refine XS.iload X137.here hx rfl (hb hby at_133) rfl ?_
      show own_S p e below T137 m 135 _ [(.int ma1), (.int 1), (.ref b133), (.ref b133)] _
      refine st141 _ ?_
      show own_S p e below T141 m 136 _ [(.ref b133)] _
      refine XS.dup X141.here hx rfl (hb hby at_136) rfl rfl ?_
      show own_S p e below T141 m 137 _ [(.ref b133), (.ref b133)] _
      refine XS.iconst X141.here hx rfl (hb hby at_137) ?_
      show own_S p e below T141 m 138 _ [(.int 2), (.ref b133), (.ref b133)] _
      refine XS.iload X141.here hx rfl (hb hby at_138) rfl ?_
      show own_S p e below T141 m 140 _ [(.int ma2), (.int 2), (.ref b133), (.ref b133)] _
      refine st145 _ ?_
      show own_S p e below T145 m 141 #[oI p0, oI p1, oI p2, oI p3, oI p4, oI 1, oI ma0, oI ma1, oI ma2, oD (FP.i2d v0), oV, oD (FP.i2d v1), oV, oD (FP.i2d v2), oV, oR b102, oR b116, oI orr_131, oU, oU, oU, oU, oU, oU] [(.ref b133)] _
      refine XS.astore X145.here hx rfl (hb hby at_141) rfl rfl (l' := #[oI p0, oI p1, oI p2, oI p3, oI p4, oI 1, oI ma0, oI ma1, oI ma2, oD (FP.i2d v0), oV, oD (FP.i2d v1), oV, oD (FP.i2d v2), oV, oR b102, oR b116, oI orr_131, oR b133, oU, oU, oU, oU, oU]) rfl ?_
      show own_S p e below T145 m 143 #[oI p0, oI p1, oI p2, oI p3, oI p4, oI 1, oI ma0, oI ma1, oI ma2, oD (FP.i2d v0), oV, oD (FP.i2d v1), oV, oD (FP.i2d v2), oV, oR b102, oR b116, oI orr_131, oR b133, oU, oU, oU, oU, oU] [] _
      refine XS.iconst X145.here hx rfl (hb hby at_143) ?_
      show own_S p e below T145 m 144 _ [(.int 0)] _
      refine XS.istore X145.here hx rfl (hb hby at_144) rfl (l' := #[oI p0, oI p1, oI p2, oI p3, oI p4, oI 1, oI ma0, oI ma1, oI ma2, oD (FP.i2d v0), oV, oD (FP.i2d v1), oV, oD (FP.i2d v2), oV, oR b102, oR b116, oI orr_131, oR b133, oI 0, oU, oU, oU, oU]) rfl ?_
      show own_S p e below T145 m 146 #[oI p0, oI p1, oI p2, oI p3, oI p4, oI 1, oI ma0, oI ma1, oI ma2, oD (FP.i2d v0), oV, oD (FP.i2d v1), oV, oD (FP.i2d v2), oV, oR b102, oR b116, oI orr_131, oR b133, oI 0, oU, oU, oU, oU] [] _
      refine XS.iload X145.here hx rfl (hb hby at_146) rfl ?_
      show own_S p e below T145 m 148 _ [(.int 1)] _
      refine XS.iconst X145.here hx rfl (hb hby at_148) ?_
      show own_S p e below T145 m 149 _ [(.int 2), (.int 1)] _
      refine XS.icmpYes X145.here hx rfl (pc0 := 149) (pc' := 195) rfl (hb hby at_149) rfl (feq (by decide : ¬ ((1 : Int32) = (2 : Int32)))).2 (by decide) (by decide) ?_
      show own_S p e below T145 m 195 _ [] _
      refine XS.iload X145.here hx rfl (hb hby at_195) rfl ?_
      show own_S p e below T145 m 197 _ [(.int 1)] _
      refine XS.iconst X145.here hx rfl (hb hby at_197) ?_
      show own_S p e below T145 m 198 _ [(.int 3), (.int 1)] _
      refine XS.icmpYes X145.here hx rfl (pc0 := 198) (pc' := 461) rfl (hb hby at_198) rfl (feq (by decide : ¬ ((1 : Int32) = (3 : Int32)))).2 (by decide) (by decide) ?_
      show own_S p e below T145 m 461 _ [] _
      refine XS.iload X145.here hx rfl (hb hby at_461) rfl ?_
      show own_S p e below T145 m 463 #[oI p0, oI p1, oI p2, oI p3, oI p4, oI 1, oI ma0, oI ma1, oI ma2, oD (FP.i2d v0), oV, oD (FP.i2d v1), oV, oD (FP.i2d v2), oV, oR b102, oR b116, oI orr_131, oR b133, oI 0, oU, oU, oU, oU] [(.int orr_131)] _
      refine XS.iload X145.here hx rfl (hb hby at_463) rfl ?_
      show own_S p e below T145 m 465 _ [(.int 0), (.int orr_131)] _
      refine XS.icmpNo X145.here hx rfl (hb hby at_465) rfl (teq ((hPF.2.2.2.symm.trans hE.2.2.2) : orr_131 = (0 : Int32))).2 ?_
      show own_S p e below T145 m 468 _ [] _
      refine XS.aload X145.here hx rfl (hb hby at_468) rfl rfl ?_
      show own_S p e below T145 m 470 _ [(.ref b102)] _
      refine XS.iconst X145.here hx rfl (hb hby at_470) ?_
      show own_S p e below T145 m 471 _ [(.int 0), (.ref b102)] _
      refine X145.iaload hx (j := (0 : Int32)) (v := (.int o0_131)) (by rw [e145]; exact Ar148.1) (State.isArrayOf_alike hZ.alike Ar148.2.1) Ar148.2.2 hin149 hat149 (g := (mkF m 471 #[oI p0, oI p1, oI p2, oI p3, oI p4, oI 1, oI ma0, oI ma1, oI ma2, oD (FP.i2d v0), oV, oD (FP.i2d v1), oV, oD (FP.i2d v2), oV, oR b102, oR b116, oI orr_131, oR b133, oI 0, oU, oU, oU, oU] [(.int 0), (.ref b102)])) rfl rfl (hb hby at_471) _ ?_
      show own_S p e below T145 m 472 _ [(.int o0_131)] _
      refine XS.aload X145.here hx rfl (hb hby at_472) rfl rfl ?_
      show own_S p e below T145 m 474 _ [(.ref b133), (.int o0_131)] _
      refine XS.iconst X145.here hx rfl (hb hby at_474) ?_
      show own_S p e below T145 m 475 #[oI p0, oI p1, oI p2, oI p3, oI p4, oI 1, oI ma0, oI ma1, oI ma2, oD (FP.i2d v0), oV, oD (FP.i2d v1), oV, oD (FP.i2d v2), oV, oR b102, oR b116, oI orr_131, oR b133, oI 0, oU, oU, oU, oU] [(.int 0), (.ref b133), (.int o0_131)] _
      refine X145.iaload hx (j := (0 : Int32)) (v := (.int ma0)) (by rw [e145]; exact Ar150.1) (State.isArrayOf_alike hZ.alike Ar150.2.1) Ar150.2.2 hin151 hat151 (g := (mkF m 475 #[oI p0, oI p1, oI p2, oI p3, oI p4, oI 1, oI ma0, oI ma1, oI ma2, oD (FP.i2d v0), oV, oD (FP.i2d v1), oV, oD (FP.i2d v2), oV, oR b102, oR b116, oI orr_131, oR b133, oI 0, oU, oU, oU, oU] [(.int 0), (.ref b133), (.int o0_131)])) rfl rfl (hb hby at_475) _ ?_
      show own_S p e below T145 m 476 _ [(.int ma0), (.int o0_131)] _
      refine XS.icmpNo X145.here hx rfl (hb hby at_476) rfl (teq ((hPF.1.symm.trans hE.1) : o0_131 = ma0)).2 ?_
      show own_S p e below T145 m 479 _ [] _
      refine XS.aload X145.here hx rfl (hb hby at_479) rfl rfl ?_
      show own_S p e below T145 m 481 _ [(.ref b102)] _
      refine XS.iconst X145.here hx rfl (hb hby at_481) ?_
      show own_S p e below T145 m 482 _ [(.int 1), (.ref b102)] _
      refine X145.iaload hx (j := (1 : Int32)) (v := (.int o1_131)) (by rw [e145]; exact Ar148.1) (State.isArrayOf_alike hZ.alike Ar148.2.1) Ar148.2.2 hin152 hat152 (g := (mkF m 482 #[oI p0, oI p1, oI p2, oI p3, oI p4, oI 1, oI ma0, oI ma1, oI ma2, oD (FP.i2d v0), oV, oD (FP.i2d v1), oV, oD (FP.i2d v2), oV, oR b102, oR b116, oI orr_131, oR b133, oI 0, oU, oU, oU, oU] [(.int 1), (.ref b102)])) rfl rfl (hb hby at_482) _ ?_
      show own_S p e below T145 m 483 _ [(.int o1_131)] _
      refine XS.aload X145.here hx rfl (hb hby at_483) rfl rfl ?_
      show own_S p e below T145 m 485 _ [(.ref b133), (.int o1_131)] _
      refine XS.iconst X145.here hx rfl (hb hby at_485) ?_
      show own_S p e below T145 m 486 #[oI p0, oI p1, oI p2, oI p3, oI p4, oI 1, oI ma0, oI ma1, oI ma2, oD (FP.i2d v0), oV, oD (FP.i2d v1), oV, oD (FP.i2d v2), oV, oR b102, oR b116, oI orr_131, oR b133, oI 0, oU, oU, oU, oU] [(.int 1), (.ref b133), (.int o1_131)] _
      refine X145.iaload hx (j := (1 : Int32)) (v := (.int ma1)) (by rw [e145]; exact Ar150.1) (State.isArrayOf_alike hZ.alike Ar150.2.1) Ar150.2.2 hin153 hat153 (g := (mkF m 486 #[oI p0, oI p1, oI p2, oI p3, oI p4, oI 1, oI ma0, oI ma1, oI ma2, oD (FP.i2d v0), oV, oD (FP.i2d v1), oV, oD (FP.i2d v2), oV, oR b102, oR b116, oI orr_131, oR b133, oI 0, oU, oU, oU, oU] [(.int 1), (.ref b133), (.int o1_131)])) rfl rfl (hb hby at_486) _ ?_
      show own_S p e below T145 m 487 _ [(.int ma1), (.int o1_131)] _
      refine XS.icmpNo X145.here hx rfl (hb hby at_487) rfl (teq ((hPF.2.1.symm.trans hE.2.1) : o1_131 = ma1)).2 ?_
      show own_S p e below T145 m 490 _ [] _
      refine XS.aload X145.here hx rfl (hb hby at_490) rfl rfl ?_
      show own_S p e below T145 m 492 _ [(.ref b102)] _
      refine XS.iconst X145.here hx rfl (hb hby at_492) ?_
      show own_S p e below T145 m 493 _ [(.int 2), (.ref b102)] _
      refine X145.iaload hx (j := (2 : Int32)) (v := (.int o2_131)) (by rw [e145]; exact Ar148.1) (State.isArrayOf_alike hZ.alike Ar148.2.1) Ar148.2.2 hin154 hat154 (g := (mkF m 493 #[oI p0, oI p1, oI p2, oI p3, oI p4, oI 1, oI ma0, oI ma1, oI ma2, oD (FP.i2d v0), oV, oD (FP.i2d v1), oV, oD (FP.i2d v2), oV, oR b102, oR b116, oI orr_131, oR b133, oI 0, oU, oU, oU, oU] [(.int 2), (.ref b102)])) rfl rfl (hb hby at_493) _ ?_
      show own_S p e below T145 m 494 _ [(.int o2_131)] _
      refine XS.aload X145.here hx rfl (hb hby at_494) rfl rfl ?_
      show own_S p e below T145 m 496 _ [(.ref b133), (.int o2_131)] _
      refine XS.iconst X145.here hx rfl (hb hby at_496) ?_
      show own_S p e below T145 m 497 #[oI p0, oI p1, oI p2, oI p3, oI p4, oI 1, oI ma0, oI ma1, oI ma2, oD (FP.i2d v0), oV, oD (FP.i2d v1), oV, oD (FP.i2d v2), oV, oR b102, oR b116, oI orr_131, oR b133, oI 0, oU, oU, oU, oU] [(.int 2), (.ref b133), (.int o2_131)] _
      refine X145.iaload hx (j := (2 : Int32)) (v := (.int ma2)) (by rw [e145]; exact Ar150.1) (State.isArrayOf_alike hZ.alike Ar150.2.1) Ar150.2.2 hin155 hat155 (g := (mkF m 497 #[oI p0, oI p1, oI p2, oI p3, oI p4, oI 1, oI ma0, oI ma1, oI ma2, oD (FP.i2d v0), oV, oD (FP.i2d v1), oV, oD (FP.i2d v2), oV, oR b102, oR b116, oI orr_131, oR b133, oI 0, oU, oU, oU, oU] [(.int 2), (.ref b133), (.int o2_131)])) rfl rfl (hb hby at_497) _ ?_
      show own_S p e below T145 m 498 _ [(.int ma2), (.int o2_131)] _
      refine XS.icmpNo X145.here hx rfl (hb hby at_498) rfl (teq ((hPF.2.2.1.symm.trans hE.2.2.1) : o2_131 = ma2)).2 ?_
      show own_S p e below T145 m 501 _ [] _
      refine XS.aload X145.here hx rfl (hb hby at_501) rfl rfl ?_
      show own_S p e below T145 m 503 _ [(.ref b116)] _
      refine XS.iconst X145.here hx rfl (hb hby at_503) ?_
      show own_S p e below T145 m 504 _ [(.int 0), (.ref b116)] _
      refine X145.daload hx (j := (0 : Int32)) (v := (.double (FP.i2d v0))) (by rw [e145]; exact Ar157.1) (State.isArrayOf_alike hZ.alike Ar157.2.1) Ar157.2.2 hin158 hat158 (g := (mkF m 504 #[oI p0, oI p1, oI p2, oI p3, oI p4, oI 1, oI ma0, oI ma1, oI ma2, oD (FP.i2d v0), oV, oD (FP.i2d v1), oV, oD (FP.i2d v2), oV, oR b102, oR b116, oI orr_131, oR b133, oI 0, oU, oU, oU, oU] [(.int 0), (.ref b116)])) rfl rfl (hb hby at_504) _ ?_
      show own_S p e below T145 m 505 _ [(.double (FP.i2d v0))] _
      refine XS.dload X145.here hx rfl (hb hby at_505) rfl ?_
      show own_S p e below T145 m 507 _ [(.double (FP.i2d v0)), (.double (FP.i2d v0))] _
      refine XS.dcmpS X145.here hx rfl (v := (0 : Int32)) (hb hby at_507) rfl (own_ieq (FP.Core.i2d_int v0) (FP.Core.i2d_int v0) rfl .l) ?_
      show own_S p e below T145 m 508 #[oI p0, oI p1, oI p2, oI p3, oI p4, oI 1, oI ma0, oI ma1, oI ma2, oD (FP.i2d v0), oV, oD (FP.i2d v1), oV, oD (FP.i2d v2), oV, oR b102, oR b116, oI orr_131, oR b133, oI 0, oU, oU, oU, oU] [(.int 0)] _
      refine XS.ifNo X145.here hx rfl (hb hby at_508) rfl ((if0 _ _).trans (teq (by decide : (0 : Int32) = (0 : Int32))).2) ?_
      show own_S p e below T145 m 511 _ [] _
      refine XS.aload X145.here hx rfl (hb hby at_511) rfl rfl ?_
      show own_S p e below T145 m 513 _ [(.ref b116)] _
      refine XS.iconst X145.here hx rfl (hb hby at_513) ?_
      show own_S p e below T145 m 514 _ [(.int 1), (.ref b116)] _
      refine X145.daload hx (j := (1 : Int32)) (v := (.double (FP.i2d v1))) (by rw [e145]; exact Ar157.1) (State.isArrayOf_alike hZ.alike Ar157.2.1) Ar157.2.2 hin159 hat159 (g := (mkF m 514 #[oI p0, oI p1, oI p2, oI p3, oI p4, oI 1, oI ma0, oI ma1, oI ma2, oD (FP.i2d v0), oV, oD (FP.i2d v1), oV, oD (FP.i2d v2), oV, oR b102, oR b116, oI orr_131, oR b133, oI 0, oU, oU, oU, oU] [(.int 1), (.ref b116)])) rfl rfl (hb hby at_514) _ ?_
      show own_S p e below T145 m 515 _ [(.double (FP.i2d v1))] _
      refine XS.dload X145.here hx rfl (hb hby at_515) rfl ?_
      show own_S p e below T145 m 517 _ [(.double (FP.i2d v1)), (.double (FP.i2d v1))] _
      refine XS.dcmpS X145.here hx rfl (v := (0 : Int32)) (hb hby at_517) rfl (own_ieq (FP.Core.i2d_int v1) (FP.Core.i2d_int v1) rfl .l) ?_
      show own_S p e below T145 m 518 _ [(.int 0)] _
      refine XS.ifNo X145.here hx rfl (hb hby at_518) rfl ((if0 _ _).trans (teq (by decide : (0 : Int32) = (0 : Int32))).2) ?_
      show own_S p e below T145 m 521 #[oI p0, oI p1, oI p2, oI p3, oI p4, oI 1, oI ma0, oI ma1, oI ma2, oD (FP.i2d v0), oV, oD (FP.i2d v1), oV, oD (FP.i2d v2), oV, oR b102, oR b116, oI orr_131, oR b133, oI 0, oU, oU, oU, oU] [] _
      refine XS.aload X145.here hx rfl (hb hby at_521) rfl rfl ?_
      show own_S p e below T145 m 523 _ [(.ref b116)] _
      refine XS.iconst X145.here hx rfl (hb hby at_523) ?_
      show own_S p e below T145 m 524 _ [(.int 2), (.ref b116)] _
      refine X145.daload hx (j := (2 : Int32)) (v := (.double (FP.i2d v2))) (by rw [e145]; exact Ar157.1) (State.isArrayOf_alike hZ.alike Ar157.2.1) Ar157.2.2 hin160 hat160 (g := (mkF m 524 #[oI p0, oI p1, oI p2, oI p3, oI p4, oI 1, oI ma0, oI ma1, oI ma2, oD (FP.i2d v0), oV, oD (FP.i2d v1), oV, oD (FP.i2d v2), oV, oR b102, oR b116, oI orr_131, oR b133, oI 0, oU, oU, oU, oU] [(.int 2), (.ref b116)])) rfl rfl (hb hby at_524) _ ?_
      show own_S p e below T145 m 525 _ [(.double (FP.i2d v2))] _
      refine XS.dload X145.here hx rfl (hb hby at_525) rfl ?_
      show own_S p e below T145 m 527 _ [(.double (FP.i2d v2)), (.double (FP.i2d v2))] _
      refine XS.dcmpS X145.here hx rfl (v := (0 : Int32)) (hb hby at_527) rfl (own_ieq (FP.Core.i2d_int v2) (FP.Core.i2d_int v2) rfl .l) ?_
      show own_S p e below T145 m 528 _ [(.int 0)] _
      refine XS.ifNo X145.here hx rfl (hb hby at_528) rfl ((if0 _ _).trans (teq (by decide : (0 : Int32) = (0 : Int32))).2) ?_
      show own_S p e below T145 m 531 _ [] _
      refine XS.iconst X145.here hx rfl (hb hby at_531) ?_
      show own_S p e below T145 m 532 #[oI p0, oI p1, oI p2, oI p3, oI p4, oI 1, oI ma0, oI ma1, oI ma2, oD (FP.i2d v0), oV, oD (FP.i2d v1), oV, oD (FP.i2d v2), oV, oR b102, oR b116, oI orr_131, oR b133, oI 0, oU, oU, oU, oU] [(.int 1)] _
      refine XS.goto X145.here hx rfl (pc0 := 532) (pc' := 536) rfl (hb hby at_532) (by decide) (by decide) ?_
      show own_S p e below T145 m 536 _ [(.int 1)] _
      exact retN X145 hx (t := .boolean) Bd.returns (by simp) (hb hby at_536) hr
    · show Qm0 Z p0 p1 p2 p3 p4 h0 n0 _ T145.heap _
      rw [e145]
      exact ⟨rfl, N145⟩
  · skip
    obtain ⟨ma0, hma0⟩ : ∃ zz, zz = ((p1 &&& (2147483647 : Int32)) % (2 : Int32)) := ⟨_, rfl⟩
    have ra0 : (ma0 = 0 ∨ ma0 = 1) := by rw [hma0]; exact own_rem2 p1
    obtain ⟨ma1, hma1⟩ : ∃ zz, zz = ((p2 &&& (2147483647 : Int32)) % (2 : Int32)) := ⟨_, rfl⟩
    have ra1 : (ma1 = 0 ∨ ma1 = 1) := by rw [hma1]; exact own_rem2 p2
    obtain ⟨ma2, hma2⟩ : ∃ zz, zz = ((p3 &&& (2147483647 : Int32)) % (2 : Int32)) := ⟨_, rfl⟩
    have ra2 : (ma2 = 0 ∨ ma2 = 1) := by rw [hma2]; exact own_rem2 p3
    obtain ⟨T161, h161, k161, X161, e161, E161, A161, st161⟩ := newP X0 hx hZ (own_w hw 1 rfl) e0 (g := (mkF m 73 #[oI p0, oI p1, oI p2, oI p3, oI p4, oI 2, oI ma0, oI ma1, oI ma2, oD (FP.i2d v0), oV, oD (FP.i2d v1), oV, oD (FP.i2d v2), oV, oU, oU, oU, oU, oU, oU, oU, oU, oU] [(.int 3)])) rfl (hb hby at_73) rfl (by decide) (cap := 3) (by decide) (by decide) (by decide) (by decide)
    obtain ⟨b161, g161⟩ : ∃ z, z = h0.size := ⟨_, rfl⟩
    rw [← g161] at A161 st161
    have g_b161 : n0 ≤ b161 := Nat.le_trans Z0 (Nat.le_of_eq g161.symm)
    have ZZ162 : n0 ≤ h161.size := Nat.le_trans Z0 E161.1
    have V_b161 : Arv Z h161 b161 k161 .int (3 : Int32) [(.int 0), (.int 0), (.int 0)] (.int 0) := (Arv.new A161 (by decide)).pad (pad_rep [] (.int 0) 3)
    obtain ⟨cl163, Ar163, qk163, Sz163, Nz163, Hh163, Gg163⟩ := id V_b161
    have hin164 : ¬ ((0 : Int32) < 0 ∨ cl163.slots.size ≤ ((0 : Int32)).toNatClampNeg) := inb_of Sz163 ⟨by decide, by decide⟩
    obtain ⟨T165, h165, X165, e165, W165, st165⟩ := stI X161 hx hZ e161 Ar163 (j := (0 : Int32)) hin164 (g := (mkF m 79 #[oI p0, oI p1, oI p2, oI p3, oI p4, oI 2, oI ma0, oI ma1, oI ma2, oD (FP.i2d v0), oV, oD (FP.i2d v1), oV, oD (FP.i2d v2), oV, oU, oU, oU, oU, oU, oU, oU, oU, oU] [(.int ma0), (.int 0), (.ref b161), (.ref b161)])) rfl rfl (hb hby at_79)
    have Va165 := Arv.set Ar163 qk163 Sz163 Nz163 Hh163 Gg163 rfl W165 0 rfl (Nat.le_of_ble_eq_true rfl)
    have N165 := Fr.snoc X165 N0 g_b161
    have ZZ166 : n0 ≤ h165.size := Nat.le_trans ZZ162 (Nat.le_of_eq W165.size.symm)
    obtain ⟨cl167, Ar167, qk167, Sz167, Nz167, Hh167, Gg167⟩ := id Va165
    have hin168 : ¬ ((1 : Int32) < 0 ∨ cl167.slots.size ≤ ((1 : Int32)).toNatClampNeg) := inb_of Sz167 ⟨by decide, by decide⟩
    obtain ⟨T169, h169, X169, e169, W169, st169⟩ := stI X165 hx hZ e165 Ar167 (j := (1 : Int32)) hin168 (g := (mkF m 84 #[oI p0, oI p1, oI p2, oI p3, oI p4, oI 2, oI ma0, oI ma1, oI ma2, oD (FP.i2d v0), oV, oD (FP.i2d v1), oV, oD (FP.i2d v2), oV, oU, oU, oU, oU, oU, oU, oU, oU, oU] [(.int ma1), (.int 1), (.ref b161), (.ref b161)])) rfl rfl (hb hby at_84)
    have Va169 := Arv.set Ar167 qk167 Sz167 Nz167 Hh167 Gg167 rfl W169 1 rfl (Nat.le_of_ble_eq_true rfl)
    have N169 := Fr.snoc X169 N165 g_b161
    have ZZ170 : n0 ≤ h169.size := Nat.le_trans ZZ166 (Nat.le_of_eq W169.size.symm)
    obtain ⟨cl171, Ar171, qk171, Sz171, Nz171, Hh171, Gg171⟩ := id Va169
    have hin172 : ¬ ((2 : Int32) < 0 ∨ cl171.slots.size ≤ ((2 : Int32)).toNatClampNeg) := inb_of Sz171 ⟨by decide, by decide⟩
    obtain ⟨T173, h173, X173, e173, W173, st173⟩ := stI X169 hx hZ e169 Ar171 (j := (2 : Int32)) hin172 (g := (mkF m 89 #[oI p0, oI p1, oI p2, oI p3, oI p4, oI 2, oI ma0, oI ma1, oI ma2, oD (FP.i2d v0), oV, oD (FP.i2d v1), oV, oD (FP.i2d v2), oV, oU, oU, oU, oU, oU, oU, oU, oU, oU] [(.int ma2), (.int 2), (.ref b161), (.ref b161)])) rfl rfl (hb hby at_89)
    have Va173 := Arv.set Ar171 qk171 Sz171 Nz171 Hh171 Gg171 rfl W173 2 rfl (Nat.le_of_ble_eq_true rfl)
    have N173 := Fr.snoc X173 N169 g_b161
    have ZZ174 : n0 ≤ h173.size := Nat.le_trans ZZ170 (Nat.le_of_eq W173.size.symm)
    obtain ⟨T175, h175, k175, X175, e175, E175, A175, st175⟩ := newP X173 hx hZ (own_w hw 2 rfl) e173 (g := (mkF m 93 #[oI p0, oI p1, oI p2, oI p3, oI p4, oI 2, oI ma0, oI ma1, oI ma2, oD (FP.i2d v0), oV, oD (FP.i2d v1), oV, oD (FP.i2d v2), oV, oR b161, oU, oU, oU, oU, oU, oU, oU, oU] [(.int 3)])) rfl (hb hby at_93) rfl (by decide) (cap := 3) (by decide) (by decide) (by decide) (by decide)
    obtain ⟨b175, g175⟩ : ∃ z, z = h173.size := ⟨_, rfl⟩
    rw [← g175] at A175 st175
    have g_b175 : n0 ≤ b175 := Nat.le_trans ZZ174 (Nat.le_of_eq g175.symm)
    have ZZ176 : n0 ≤ h175.size := Nat.le_trans ZZ174 E175.1
    have V_b175 : Arv Z h175 b175 k175 .double (3 : Int32) [(.double 0), (.double 0), (.double 0)] (.double 0) := (Arv.new A175 (by decide)).pad (pad_rep [] (.double 0) 3)
    obtain ⟨cl177, Ar177, qk177, Sz177, Nz177, Hh177, Gg177⟩ := id V_b175
    have hin178 : ¬ ((0 : Int32) < 0 ∨ cl177.slots.size ≤ ((0 : Int32)).toNatClampNeg) := inb_of Sz177 ⟨by decide, by decide⟩
    obtain ⟨T179, h179, X179, e179, W179, st179⟩ := stD X175 hx hZ e175 Ar177 (j := (0 : Int32)) hin178 (g := (mkF m 99 #[oI p0, oI p1, oI p2, oI p3, oI p4, oI 2, oI ma0, oI ma1, oI ma2, oD (FP.i2d v0), oV, oD (FP.i2d v1), oV, oD (FP.i2d v2), oV, oR b161, oU, oU, oU, oU, oU, oU, oU, oU] [(.double (FP.i2d v0)), (.int 0), (.ref b175), (.ref b175)])) rfl rfl (hb hby at_99)
    have Va179 := Arv.set Ar177 qk177 Sz177 Nz177 Hh177 Gg177 rfl W179 0 rfl (Nat.le_of_ble_eq_true rfl)
    have N179 := Fr.snoc X179 N173 g_b175
    have ZZ180 : n0 ≤ h179.size := Nat.le_trans ZZ176 (Nat.le_of_eq W179.size.symm)
    obtain ⟨cl181, Ar181, qk181, Sz181, Nz181, Hh181, Gg181⟩ := id Va179
    have hin182 : ¬ ((1 : Int32) < 0 ∨ cl181.slots.size ≤ ((1 : Int32)).toNatClampNeg) := inb_of Sz181 ⟨by decide, by decide⟩
    obtain ⟨T183, h183, X183, e183, W183, st183⟩ := stD X179 hx hZ e179 Ar181 (j := (1 : Int32)) hin182 (g := (mkF m 104 #[oI p0, oI p1, oI p2, oI p3, oI p4, oI 2, oI ma0, oI ma1, oI ma2, oD (FP.i2d v0), oV, oD (FP.i2d v1), oV, oD (FP.i2d v2), oV, oR b161, oU, oU, oU, oU, oU, oU, oU, oU] [(.double (FP.i2d v1)), (.int 1), (.ref b175), (.ref b175)])) rfl rfl (hb hby at_104)
    have Va183 := Arv.set Ar181 qk181 Sz181 Nz181 Hh181 Gg181 rfl W183 1 rfl (Nat.le_of_ble_eq_true rfl)
    have N183 := Fr.snoc X183 N179 g_b175
    have ZZ184 : n0 ≤ h183.size := Nat.le_trans ZZ180 (Nat.le_of_eq W183.size.symm)
    obtain ⟨cl185, Ar185, qk185, Sz185, Nz185, Hh185, Gg185⟩ := id Va183
    have hin186 : ¬ ((2 : Int32) < 0 ∨ cl185.slots.size ≤ ((2 : Int32)).toNatClampNeg) := inb_of Sz185 ⟨by decide, by decide⟩
    obtain ⟨T187, h187, X187, e187, W187, st187⟩ := stD X183 hx hZ e183 Ar185 (j := (2 : Int32)) hin186 (g := (mkF m 109 #[oI p0, oI p1, oI p2, oI p3, oI p4, oI 2, oI ma0, oI ma1, oI ma2, oD (FP.i2d v0), oV, oD (FP.i2d v1), oV, oD (FP.i2d v2), oV, oR b161, oU, oU, oU, oU, oU, oU, oU, oU] [(.double (FP.i2d v2)), (.int 2), (.ref b175), (.ref b175)])) rfl rfl (hb hby at_109)
    have Va187 := Arv.set Ar185 qk185 Sz185 Nz185 Hh185 Gg185 rfl W187 2 rfl (Nat.le_of_ble_eq_true rfl)
    have N187 := Fr.snoc X187 N183 g_b175
    have ZZ188 : n0 ≤ h187.size := Nat.le_trans ZZ184 (Nat.le_of_eq W187.size.symm)
    have Fc189 := ((((Va173.ext E175).other W179 (Nat.ne_of_lt (Nat.lt_of_lt_of_le Va173.lt (Nat.le_of_eq g175.symm)))).other W183 (Nat.ne_of_lt (Nat.lt_of_lt_of_le Va173.lt (Nat.le_of_eq g175.symm)))).other W187 (Nat.ne_of_lt (Nat.lt_of_lt_of_le Va173.lt (Nat.le_of_eq g175.symm))))
    obtain ⟨_, _, ⟨T190, L190, k190, n190⟩, -, X190, ⟨Lc190, hQ190, l190, y190, z190⟩, st190⟩ := Jvm.LawKit.callS X187 hx (y := (⟨"com/example/metasearch/metasearch/EmptyClusters", "fill", "([I[DI)Z"⟩ : MethodName)) hown (mvT hZ (own_w hw 3 rfl)) (mvT hZ (own_w hw 4 rfl)) (mvT hZ (own_w hw 5 rfl)) (mvT hZ (own_w hw 6 rfl)) (by decide) (backOf (W := 0) (rmf2 l Z a0 hw [] b161 b175 k161 k175 ma0 ma1 ma2 (FP.i2d v0) (FP.i2d v1) (FP.i2d v2) x y z h187 n0 ZZ188 Fc189 Va187 g_b161 (Ne.symm (Nat.ne_of_lt (Nat.lt_of_lt_of_le Va173.lt (Nat.le_of_eq g175.symm)))) ra0 ra1 ra2 lx ly lz) hZ (own_w hw 6 rfl) (own_w hw 5 rfl) (by decide) (by decide)) (g := (mkF m 118 #[oI p0, oI p1, oI p2, oI p3, oI p4, oI 2, oI ma0, oI ma1, oI ma2, oD (FP.i2d v0), oV, oD (FP.i2d v1), oV, oD (FP.i2d v2), oV, oR b161, oR b175, oU, oU, oU, oU, oU, oU, oU] [(.int 2), (.ref b175), (.ref b161)])) rfl (by rw [hml]; rfl) (argsL := [(.ref b161), (.ref b175), (.int 2)]) (rest := []) (lenOf pd0 rfl) rfl (by show 2 * 0 + _ ≤ _; exact Nat.le_of_eq rfl) (hb hby at_118) (fun _ _ => ⟨rfl, e187, (by decide : 2 + 1 ≤ _), (by decide : 6 + 2 ≤ _)⟩)
    dsimp only [Pt.U, Pt.locs, Pt.cells, Pt.slots] at X190 l190 y190 z190 st190 hQ190
    subst l190 y190 z190
    obtain ⟨o0_190, o1_190, o2_190, orr_190, rfl, Nq190, P190_0, P190_1, hPF⟩ := hQ190
    have N190 := Fr.app N187 Nq190
    have ZZ191 : n0 ≤ T190.heap.size := Nat.le_trans ZZ188 P190_0.1
    obtain ⟨T192, h192, k192, X192, e192, E192, A192, st192⟩ := newP X190 hx hZ (own_w hw 1 rfl) rfl (g := (mkF m 124 #[oI p0, oI p1, oI p2, oI p3, oI p4, oI 2, oI ma0, oI ma1, oI ma2, oD (FP.i2d v0), oV, oD (FP.i2d v1), oV, oD (FP.i2d v2), oV, oR b161, oR b175, oI orr_190, oU, oU, oU, oU, oU, oU] [(.int 3)])) rfl (hb hby at_124) rfl (by decide) (cap := 3) (by decide) (by decide) (by decide) (by decide)
    obtain ⟨b192, g192⟩ : ∃ z, z = T190.heap.size := ⟨_, rfl⟩
    rw [← g192] at A192 st192
    have g_b192 : n0 ≤ b192 := Nat.le_trans ZZ191 (Nat.le_of_eq g192.symm)
    have ZZ193 : n0 ≤ h192.size := Nat.le_trans ZZ191 E192.1
    have V_b192 : Arv Z h192 b192 k192 .int (3 : Int32) [(.int 0), (.int 0), (.int 0)] (.int 0) := (Arv.new A192 (by decide)).pad (pad_rep [] (.int 0) 3)
    obtain ⟨cl194, Ar194, qk194, Sz194, Nz194, Hh194, Gg194⟩ := id V_b192
    have hin195 : ¬ ((0 : Int32) < 0 ∨ cl194.slots.size ≤ ((0 : Int32)).toNatClampNeg) := inb_of Sz194 ⟨by decide, by decide⟩
    obtain ⟨T196, h196, X196, e196, W196, st196⟩ := stI X192 hx hZ e192 Ar194 (j := (0 : Int32)) hin195 (g := (mkF m 130 #[oI p0, oI p1, oI p2, oI p3, oI p4, oI 2, oI ma0, oI ma1, oI ma2, oD (FP.i2d v0), oV, oD (FP.i2d v1), oV, oD (FP.i2d v2), oV, oR b161, oR b175, oI orr_190, oU, oU, oU, oU, oU, oU] [(.int ma0), (.int 0), (.ref b192), (.ref b192)])) rfl rfl (hb hby at_130)
    have Va196 := Arv.set Ar194 qk194 Sz194 Nz194 Hh194 Gg194 rfl W196 0 rfl (Nat.le_of_ble_eq_true rfl)
    have N196 := Fr.snoc X196 N190 g_b192
    have ZZ197 : n0 ≤ h196.size := Nat.le_trans ZZ193 (Nat.le_of_eq W196.size.symm)
    obtain ⟨cl198, Ar198, qk198, Sz198, Nz198, Hh198, Gg198⟩ := id Va196
    have hin199 : ¬ ((1 : Int32) < 0 ∨ cl198.slots.size ≤ ((1 : Int32)).toNatClampNeg) := inb_of Sz198 ⟨by decide, by decide⟩
    obtain ⟨T200, h200, X200, e200, W200, st200⟩ := stI X196 hx hZ e196 Ar198 (j := (1 : Int32)) hin199 (g := (mkF m 135 #[oI p0, oI p1, oI p2, oI p3, oI p4, oI 2, oI ma0, oI ma1, oI ma2, oD (FP.i2d v0), oV, oD (FP.i2d v1), oV, oD (FP.i2d v2), oV, oR b161, oR b175, oI orr_190, oU, oU, oU, oU, oU, oU] [(.int ma1), (.int 1), (.ref b192), (.ref b192)])) rfl rfl (hb hby at_135)
    have Va200 := Arv.set Ar198 qk198 Sz198 Nz198 Hh198 Gg198 rfl W200 1 rfl (Nat.le_of_ble_eq_true rfl)
    have N200 := Fr.snoc X200 N196 g_b192
    have ZZ201 : n0 ≤ h200.size := Nat.le_trans ZZ197 (Nat.le_of_eq W200.size.symm)
    obtain ⟨cl202, Ar202, qk202, Sz202, Nz202, Hh202, Gg202⟩ := id Va200
    have hin203 : ¬ ((2 : Int32) < 0 ∨ cl202.slots.size ≤ ((2 : Int32)).toNatClampNeg) := inb_of Sz202 ⟨by decide, by decide⟩
    obtain ⟨T204, h204, X204, e204, W204, st204⟩ := stI X200 hx hZ e200 Ar202 (j := (2 : Int32)) hin203 (g := (mkF m 140 #[oI p0, oI p1, oI p2, oI p3, oI p4, oI 2, oI ma0, oI ma1, oI ma2, oD (FP.i2d v0), oV, oD (FP.i2d v1), oV, oD (FP.i2d v2), oV, oR b161, oR b175, oI orr_190, oU, oU, oU, oU, oU, oU] [(.int ma2), (.int 2), (.ref b192), (.ref b192)])) rfl rfl (hb hby at_140)
    have Va204 := Arv.set Ar202 qk202 Sz202 Nz202 Hh202 Gg202 rfl W204 2 rfl (Nat.le_of_ble_eq_true rfl)
    have N204 := Fr.snoc X204 N200 g_b192
    have ZZ205 : n0 ≤ h204.size := Nat.le_trans ZZ201 (Nat.le_of_eq W204.size.symm)
    have pre206 : ∀ t, Steps p.tables e below (T204.setTop (mkF m 156 #[oI p0, oI p1, oI p2, oI p3, oI p4, oI 2, oI ma0, oI ma1, oI ma2, oD (FP.i2d v0), oV, oD (FP.i2d v1), oV, oD (FP.i2d v2), oV, oR b161, oR b175, oI orr_190, oR b192, oI 0, oU, oU, oU, oU] [(.int ma1), (.int ma0)])) t → Steps p.tables e below (s₁.setTop (mkF m 0 #[oI p0, oI p1, oI p2, oI p3, oI p4, oU, oU, oU, oU, oU, oU, oU, oU, oU, oU, oU, oU, oU, oU, oU, oU, oU, oU, oU] [])) t := by
      intro t kt
      refine pre101 _ ?_
      show own_S p e below s₁ m 8 #[oI p0, oI p1, oI p2, oI p3, oI p4, oU, oU, oU, oU, oU, oU, oU, oU, oU, oU, oU, oU, oU, oU, oU, oU, oU, oU, oU] [(.int ((1 : Int32) + ((p0 &&& (2147483647 : Int32)) % (3 : Int32))))] _
      refine reI (hk : ((1 : Int32) + ((p0 &&& (2147483647 : Int32)) % (3 : Int32))) = (2 : Int32)) ?_
      show own_S p e below s₁ m 8 _ [(.int 2)] _
      refine XS.istore X0.here hx rfl (hb hby at_8) rfl (l' := #[oI p0, oI p1, oI p2, oI p3, oI p4, oI 2, oU, oU, oU, oU, oU, oU, oU, oU, oU, oU, oU, oU, oU, oU, oU, oU, oU, oU]) rfl ?_
      show own_S p e below s₁ m 10 #[oI p0, oI p1, oI p2, oI p3, oI p4, oI 2, oU, oU, oU, oU, oU, oU, oU, oU, oU, oU, oU, oU, oU, oU, oU, oU, oU, oU] [] _
      refine XS.iloadN X0.here hx rfl (hb hby at_10) rfl ?_
      show own_S p e below s₁ m 11 _ [(.int p1)] _
      refine X0.ldcInt hx hown (mvT hZ (own_w hw 0 rfl)) (g := (mkF m 11 #[oI p0, oI p1, oI p2, oI p3, oI p4, oI 2, oU, oU, oU, oU, oU, oU, oU, oU, oU, oU, oU, oU, oU, oU, oU, oU, oU, oU] [(.int p1)])) rfl (hb hby at_11) _ ?_
      show own_S p e below s₁ m 13 _ [(.int 2147483647), (.int p1)] _
      refine XS.iand X0.here hx rfl (hb hby at_13) rfl ?_
      show own_S p e below s₁ m 14 _ [(.int (p1 &&& (2147483647 : Int32)))] _
      refine XS.iload X0.here hx rfl (hb hby at_14) rfl ?_
      show own_S p e below s₁ m 16 _ [(.int 2), (.int (p1 &&& (2147483647 : Int32)))] _
      refine iremM (g := (mkF m 16 #[oI p0, oI p1, oI p2, oI p3, oI p4, oI 2, oU, oU, oU, oU, oU, oU, oU, oU, oU, oU, oU, oU, oU, oU, oU, oU, oU, oU] [(.int 2), (.int (p1 &&& (2147483647 : Int32)))])) X0 hx rfl (hb hby at_16) rfl (by decide) ?_
      show own_S p e below s₁ m 17 _ [(.int ((p1 &&& (2147483647 : Int32)) % (2 : Int32)))] _
      refine reI (hma0.symm : ((p1 &&& (2147483647 : Int32)) % (2 : Int32)) = ma0) ?_
      show own_S p e below s₁ m 17 _ [(.int ma0)] _
      refine XS.istore X0.here hx rfl (hb hby at_17) rfl (l' := #[oI p0, oI p1, oI p2, oI p3, oI p4, oI 2, oI ma0, oU, oU, oU, oU, oU, oU, oU, oU, oU, oU, oU, oU, oU, oU, oU, oU, oU]) rfl ?_
      show own_S p e below s₁ m 19 #[oI p0, oI p1, oI p2, oI p3, oI p4, oI 2, oI ma0, oU, oU, oU, oU, oU, oU, oU, oU, oU, oU, oU, oU, oU, oU, oU, oU, oU] [] _
      refine XS.iloadN X0.here hx rfl (hb hby at_19) rfl ?_
      show own_S p e below s₁ m 20 _ [(.int p2)] _
      refine X0.ldcInt hx hown (mvT hZ (own_w hw 0 rfl)) (g := (mkF m 20 #[oI p0, oI p1, oI p2, oI p3, oI p4, oI 2, oI ma0, oU, oU, oU, oU, oU, oU, oU, oU, oU, oU, oU, oU, oU, oU, oU, oU, oU] [(.int p2)])) rfl (hb hby at_20) _ ?_
      show own_S p e below s₁ m 22 _ [(.int 2147483647), (.int p2)] _
      refine XS.iand X0.here hx rfl (hb hby at_22) rfl ?_
      show own_S p e below s₁ m 23 _ [(.int (p2 &&& (2147483647 : Int32)))] _
      refine XS.iload X0.here hx rfl (hb hby at_23) rfl ?_
      show own_S p e below s₁ m 25 _ [(.int 2), (.int (p2 &&& (2147483647 : Int32)))] _
      refine iremM (g := (mkF m 25 #[oI p0, oI p1, oI p2, oI p3, oI p4, oI 2, oI ma0, oU, oU, oU, oU, oU, oU, oU, oU, oU, oU, oU, oU, oU, oU, oU, oU, oU] [(.int 2), (.int (p2 &&& (2147483647 : Int32)))])) X0 hx rfl (hb hby at_25) rfl (by decide) ?_
      show own_S p e below s₁ m 26 _ [(.int ((p2 &&& (2147483647 : Int32)) % (2 : Int32)))] _
      refine reI (hma1.symm : ((p2 &&& (2147483647 : Int32)) % (2 : Int32)) = ma1) ?_
      show own_S p e below s₁ m 26 _ [(.int ma1)] _
      refine XS.istore X0.here hx rfl (hb hby at_26) rfl (l' := #[oI p0, oI p1, oI p2, oI p3, oI p4, oI 2, oI ma0, oI ma1, oU, oU, oU, oU, oU, oU, oU, oU, oU, oU, oU, oU, oU, oU, oU, oU]) rfl ?_
      show own_S p e below s₁ m 28 #[oI p0, oI p1, oI p2, oI p3, oI p4, oI 2, oI ma0, oI ma1, oU, oU, oU, oU, oU, oU, oU, oU, oU, oU, oU, oU, oU, oU, oU, oU] [] _
      refine XS.iloadN X0.here hx rfl (hb hby at_28) rfl ?_
      show own_S p e below s₁ m 29 _ [(.int p3)] _
      refine X0.ldcInt hx hown (mvT hZ (own_w hw 0 rfl)) (g := (mkF m 29 #[oI p0, oI p1, oI p2, oI p3, oI p4, oI 2, oI ma0, oI ma1, oU, oU, oU, oU, oU, oU, oU, oU, oU, oU, oU, oU, oU, oU, oU, oU] [(.int p3)])) rfl (hb hby at_29) _ ?_
      show own_S p e below s₁ m 31 _ [(.int 2147483647), (.int p3)] _
      refine XS.iand X0.here hx rfl (hb hby at_31) rfl ?_
      show own_S p e below s₁ m 32 _ [(.int (p3 &&& (2147483647 : Int32)))] _
      refine XS.iload X0.here hx rfl (hb hby at_32) rfl ?_
      show own_S p e below s₁ m 34 _ [(.int 2), (.int (p3 &&& (2147483647 : Int32)))] _
      refine iremM (g := (mkF m 34 #[oI p0, oI p1, oI p2, oI p3, oI p4, oI 2, oI ma0, oI ma1, oU, oU, oU, oU, oU, oU, oU, oU, oU, oU, oU, oU, oU, oU, oU, oU] [(.int 2), (.int (p3 &&& (2147483647 : Int32)))])) X0 hx rfl (hb hby at_34) rfl (by decide) ?_
      show own_S p e below s₁ m 35 _ [(.int ((p3 &&& (2147483647 : Int32)) % (2 : Int32)))] _
      refine reI (hma2.symm : ((p3 &&& (2147483647 : Int32)) % (2 : Int32)) = ma2) ?_
      show own_S p e below s₁ m 35 _ [(.int ma2)] _
      refine XS.istore X0.here hx rfl (hb hby at_35) rfl (l' := #[oI p0, oI p1, oI p2, oI p3, oI p4, oI 2, oI ma0, oI ma1, oI ma2, oU, oU, oU, oU, oU, oU, oU, oU, oU, oU, oU, oU, oU, oU, oU]) rfl ?_
      show own_S p e below s₁ m 37 #[oI p0, oI p1, oI p2, oI p3, oI p4, oI 2, oI ma0, oI ma1, oI ma2, oU, oU, oU, oU, oU, oU, oU, oU, oU, oU, oU, oU, oU, oU, oU] [] _
      refine XS.iload X0.here hx rfl (hb hby at_37) rfl ?_
      show own_S p e below s₁ m 39 _ [(.int p4)] _
      refine XS.bipush X0.here hx rfl (hb hby at_39) ?_
      show own_S p e below s₁ m 41 _ [(.int 7), (.int p4)] _
      refine XS.iand X0.here hx rfl (hb hby at_41) rfl ?_
      show own_S p e below s₁ m 42 _ [(.int (p4 &&& (7 : Int32)))] _
      refine XS.iconst X0.here hx rfl (hb hby at_42) ?_
      show own_S p e below s₁ m 43 _ [(.int 3), (.int (p4 &&& (7 : Int32)))] _
      refine XS.isub X0.here hx rfl (hb hby at_43) rfl ?_
      show own_S p e below s₁ m 44 _ [(.int ((p4 &&& (7 : Int32)) - (3 : Int32)))] _
      refine reI (hv0.symm : ((p4 &&& (7 : Int32)) - (3 : Int32)) = v0) ?_
      show own_S p e below s₁ m 44 _ [(.int v0)] _
      refine XS.i2dS X0.here hx rfl (v := (FP.i2d v0)) (hb hby at_44) rfl rfl ?_
      show own_S p e below s₁ m 45 #[oI p0, oI p1, oI p2, oI p3, oI p4, oI 2, oI ma0, oI ma1, oI ma2, oU, oU, oU, oU, oU, oU, oU, oU, oU, oU, oU, oU, oU, oU, oU] [(.double (FP.i2d v0))] _
      refine XS.dstore X0.here hx rfl (hb hby at_45) rfl (l' := #[oI p0, oI p1, oI p2, oI p3, oI p4, oI 2, oI ma0, oI ma1, oI ma2, oD (FP.i2d v0), oV, oU, oU, oU, oU, oU, oU, oU, oU, oU, oU, oU, oU, oU]) rfl ?_
      show own_S p e below s₁ m 47 #[oI p0, oI p1, oI p2, oI p3, oI p4, oI 2, oI ma0, oI ma1, oI ma2, oD (FP.i2d v0), oV, oU, oU, oU, oU, oU, oU, oU, oU, oU, oU, oU, oU, oU] [] _
      refine XS.iload X0.here hx rfl (hb hby at_47) rfl ?_
      show own_S p e below s₁ m 49 _ [(.int p4)] _
      refine XS.iconst X0.here hx rfl (hb hby at_49) ?_
      show own_S p e below s₁ m 50 _ [(.int 3), (.int p4)] _
      refine XS.iushr X0.here hx rfl (hb hby at_50) rfl ?_
      show own_S p e below s₁ m 51 _ [(.int ((p4.toUInt32 >>> ((3 : Int32) &&& 31).toUInt32).toInt32))] _
      refine XS.bipush X0.here hx rfl (hb hby at_51) ?_
      show own_S p e below s₁ m 53 _ [(.int 7), (.int ((p4.toUInt32 >>> ((3 : Int32) &&& 31).toUInt32).toInt32))] _
      refine XS.iand X0.here hx rfl (hb hby at_53) rfl ?_
      show own_S p e below s₁ m 54 _ [(.int (((p4.toUInt32 >>> ((3 : Int32) &&& 31).toUInt32).toInt32) &&& (7 : Int32)))] _
      refine XS.iconst X0.here hx rfl (hb hby at_54) ?_
      show own_S p e below s₁ m 55 _ [(.int 3), (.int (((p4.toUInt32 >>> ((3 : Int32) &&& 31).toUInt32).toInt32) &&& (7 : Int32)))] _
      refine XS.isub X0.here hx rfl (hb hby at_55) rfl ?_
      show own_S p e below s₁ m 56 #[oI p0, oI p1, oI p2, oI p3, oI p4, oI 2, oI ma0, oI ma1, oI ma2, oD (FP.i2d v0), oV, oU, oU, oU, oU, oU, oU, oU, oU, oU, oU, oU, oU, oU] [(.int ((((p4.toUInt32 >>> ((3 : Int32) &&& 31).toUInt32).toInt32) &&& (7 : Int32)) - (3 : Int32)))] _
      refine reI (hv1.symm : ((((p4.toUInt32 >>> ((3 : Int32) &&& 31).toUInt32).toInt32) &&& (7 : Int32)) - (3 : Int32)) = v1) ?_
      show own_S p e below s₁ m 56 _ [(.int v1)] _
      refine XS.i2dS X0.here hx rfl (v := (FP.i2d v1)) (hb hby at_56) rfl rfl ?_
      show own_S p e below s₁ m 57 _ [(.double (FP.i2d v1))] _
      refine XS.dstore X0.here hx rfl (hb hby at_57) rfl (l' := #[oI p0, oI p1, oI p2, oI p3, oI p4, oI 2, oI ma0, oI ma1, oI ma2, oD (FP.i2d v0), oV, oD (FP.i2d v1), oV, oU, oU, oU, oU, oU, oU, oU, oU, oU, oU, oU]) rfl ?_
      show own_S p e below s₁ m 59 #[oI p0, oI p1, oI p2, oI p3, oI p4, oI 2, oI ma0, oI ma1, oI ma2, oD (FP.i2d v0), oV, oD (FP.i2d v1), oV, oU, oU, oU, oU, oU, oU, oU, oU, oU, oU, oU] [] _
      refine XS.iload X0.here hx rfl (hb hby at_59) rfl ?_
      show own_S p e below s₁ m 61 _ [(.int p4)] _
      refine XS.bipush X0.here hx rfl (hb hby at_61) ?_
      show own_S p e below s₁ m 63 _ [(.int 6), (.int p4)] _
      refine XS.iushr X0.here hx rfl (hb hby at_63) rfl ?_
      show own_S p e below s₁ m 64 _ [(.int ((p4.toUInt32 >>> ((6 : Int32) &&& 31).toUInt32).toInt32))] _
      refine XS.bipush X0.here hx rfl (hb hby at_64) ?_
      show own_S p e below s₁ m 66 _ [(.int 7), (.int ((p4.toUInt32 >>> ((6 : Int32) &&& 31).toUInt32).toInt32))] _
      refine XS.iand X0.here hx rfl (hb hby at_66) rfl ?_
      show own_S p e below s₁ m 67 _ [(.int (((p4.toUInt32 >>> ((6 : Int32) &&& 31).toUInt32).toInt32) &&& (7 : Int32)))] _
      refine XS.iconst X0.here hx rfl (hb hby at_67) ?_
      show own_S p e below s₁ m 68 _ [(.int 3), (.int (((p4.toUInt32 >>> ((6 : Int32) &&& 31).toUInt32).toInt32) &&& (7 : Int32)))] _
      refine XS.isub X0.here hx rfl (hb hby at_68) rfl ?_
      show own_S p e below s₁ m 69 #[oI p0, oI p1, oI p2, oI p3, oI p4, oI 2, oI ma0, oI ma1, oI ma2, oD (FP.i2d v0), oV, oD (FP.i2d v1), oV, oU, oU, oU, oU, oU, oU, oU, oU, oU, oU, oU] [(.int ((((p4.toUInt32 >>> ((6 : Int32) &&& 31).toUInt32).toInt32) &&& (7 : Int32)) - (3 : Int32)))] _
      refine reI (hv2.symm : ((((p4.toUInt32 >>> ((6 : Int32) &&& 31).toUInt32).toInt32) &&& (7 : Int32)) - (3 : Int32)) = v2) ?_
      show own_S p e below s₁ m 69 _ [(.int v2)] _
      refine XS.i2dS X0.here hx rfl (v := (FP.i2d v2)) (hb hby at_69) rfl rfl ?_
      show own_S p e below s₁ m 70 _ [(.double (FP.i2d v2))] _
      refine XS.dstore X0.here hx rfl (hb hby at_70) rfl (l' := #[oI p0, oI p1, oI p2, oI p3, oI p4, oI 2, oI ma0, oI ma1, oI ma2, oD (FP.i2d v0), oV, oD (FP.i2d v1), oV, oD (FP.i2d v2), oV, oU, oU, oU, oU, oU, oU, oU, oU, oU]) rfl ?_
      show own_S p e below s₁ m 72 #[oI p0, oI p1, oI p2, oI p3, oI p4, oI 2, oI ma0, oI ma1, oI ma2, oD (FP.i2d v0), oV, oD (FP.i2d v1), oV, oD (FP.i2d v2), oV, oU, oU, oU, oU, oU, oU, oU, oU, oU] [] _
      refine XS.iconst X0.here hx rfl (hb hby at_72) ?_
      show own_S p e below s₁ m 73 _ [(.int 3)] _
      refine st161 _ ?_
      show own_S p e below T161 m 75 _ [(.ref b161)] _
      refine XS.dup X161.here hx rfl (hb hby at_75) rfl rfl ?_
      show own_S p e below T161 m 76 _ [(.ref b161), (.ref b161)] _
      refine XS.iconst X161.here hx rfl (hb hby at_76) ?_
      show own_S p e below T161 m 77 _ [(.int 0), (.ref b161), (.ref b161)] _
      refine XS.iload X161.here hx rfl (hb hby at_77) rfl ?_
      show own_S p e below T161 m 79 _ [(.int ma0), (.int 0), (.ref b161), (.ref b161)] _
      refine st165 _ ?_
      show own_S p e below T165 m 80 _ [(.ref b161)] _
      refine XS.dup X165.here hx rfl (hb hby at_80) rfl rfl ?_
      show own_S p e below T165 m 81 #[oI p0, oI p1, oI p2, oI p3, oI p4, oI 2, oI ma0, oI ma1, oI ma2, oD (FP.i2d v0), oV, oD (FP.i2d v1), oV, oD (FP.i2d v2), oV, oU, oU, oU, oU, oU, oU, oU, oU, oU] [(.ref b161), (.ref b161)] _
      refine XS.iconst X165.here hx rfl (hb hby at_81) ?_
      show own_S p e below T165 m 82 _ [(.int 1), (.ref b161), (.ref b161)] _
      refine XS.iload X165.here hx rfl (hb hby at_82) rfl ?_
      show own_S p e below T165 m 84 _ [(.int ma1), (.int 1), (.ref b161), (.ref b161)] _
      refine st169 _ ?_
      show own_S p e below T169 m 85 _ [(.ref b161)] _
      refine XS.dup X169.here hx rfl (hb hby at_85) rfl rfl ?_
      show own_S p e below T169 m 86 _ [(.ref b161), (.ref b161)] _
      refine XS.iconst X169.here hx rfl (hb hby at_86) ?_
      show own_S p e below T169 m 87 _ [(.int 2), (.ref b161), (.ref b161)] _
      refine XS.iload X169.here hx rfl (hb hby at_87) rfl ?_
      show own_S p e below T169 m 89 _ [(.int ma2), (.int 2), (.ref b161), (.ref b161)] _
      refine st173 _ ?_
      show own_S p e below T173 m 90 #[oI p0, oI p1, oI p2, oI p3, oI p4, oI 2, oI ma0, oI ma1, oI ma2, oD (FP.i2d v0), oV, oD (FP.i2d v1), oV, oD (FP.i2d v2), oV, oU, oU, oU, oU, oU, oU, oU, oU, oU] [(.ref b161)] _
      refine XS.astore X173.here hx rfl (hb hby at_90) rfl rfl (l' := #[oI p0, oI p1, oI p2, oI p3, oI p4, oI 2, oI ma0, oI ma1, oI ma2, oD (FP.i2d v0), oV, oD (FP.i2d v1), oV, oD (FP.i2d v2), oV, oR b161, oU, oU, oU, oU, oU, oU, oU, oU]) rfl ?_
      show own_S p e below T173 m 92 #[oI p0, oI p1, oI p2, oI p3, oI p4, oI 2, oI ma0, oI ma1, oI ma2, oD (FP.i2d v0), oV, oD (FP.i2d v1), oV, oD (FP.i2d v2), oV, oR b161, oU, oU, oU, oU, oU, oU, oU, oU] [] _
      refine XS.iconst X173.here hx rfl (hb hby at_92) ?_
      show own_S p e below T173 m 93 _ [(.int 3)] _
      refine st175 _ ?_
      show own_S p e below T175 m 95 _ [(.ref b175)] _
      refine XS.dup X175.here hx rfl (hb hby at_95) rfl rfl ?_
      show own_S p e below T175 m 96 _ [(.ref b175), (.ref b175)] _
      refine XS.iconst X175.here hx rfl (hb hby at_96) ?_
      show own_S p e below T175 m 97 _ [(.int 0), (.ref b175), (.ref b175)] _
      refine XS.dload X175.here hx rfl (hb hby at_97) rfl ?_
      show own_S p e below T175 m 99 _ [(.double (FP.i2d v0)), (.int 0), (.ref b175), (.ref b175)] _
      refine st179 _ ?_
      show own_S p e below T179 m 100 _ [(.ref b175)] _
      refine XS.dup X179.here hx rfl (hb hby at_100) rfl rfl ?_
      show own_S p e below T179 m 101 #[oI p0, oI p1, oI p2, oI p3, oI p4, oI 2, oI ma0, oI ma1, oI ma2, oD (FP.i2d v0), oV, oD (FP.i2d v1), oV, oD (FP.i2d v2), oV, oR b161, oU, oU, oU, oU, oU, oU, oU, oU] [(.ref b175), (.ref b175)] _
      refine XS.iconst X179.here hx rfl (hb hby at_101) ?_
      show own_S p e below T179 m 102 _ [(.int 1), (.ref b175), (.ref b175)] _
      refine XS.dload X179.here hx rfl (hb hby at_102) rfl ?_
      show own_S p e below T179 m 104 _ [(.double (FP.i2d v1)), (.int 1), (.ref b175), (.ref b175)] _
      refine st183 _ ?_
      show own_S p e below T183 m 105 _ [(.ref b175)] _
      refine XS.dup X183.here hx rfl (hb hby at_105) rfl rfl ?_
      show own_S p e below T183 m 106 _ [(.ref b175), (.ref b175)] _
      refine XS.iconst X183.here hx rfl (hb hby at_106) ?_
      show own_S p e below T183 m 107 _ [(.int 2), (.ref b175), (.ref b175)] _
      refine XS.dload X183.here hx rfl (hb hby at_107) rfl ?_
      show own_S p e below T183 m 109 _ [(.double (FP.i2d v2)), (.int 2), (.ref b175), (.ref b175)] _
      refine st187 _ ?_
      show own_S p e below T187 m 110 #[oI p0, oI p1, oI p2, oI p3, oI p4, oI 2, oI ma0, oI ma1, oI ma2, oD (FP.i2d v0), oV, oD (FP.i2d v1), oV, oD (FP.i2d v2), oV, oR b161, oU, oU, oU, oU, oU, oU, oU, oU] [(.ref b175)] _
      refine XS.astore X187.here hx rfl (hb hby at_110) rfl rfl (l' := #[oI p0, oI p1, oI p2, oI p3, oI p4, oI 2, oI ma0, oI ma1, oI ma2, oD (FP.i2d v0), oV, oD (FP.i2d v1), oV, oD (FP.i2d v2), oV, oR b161, oR b175, oU, oU, oU, oU, oU, oU, oU]) rfl ?_
      show own_S p e below T187 m 112 #[oI p0, oI p1, oI p2, oI p3, oI p4, oI 2, oI ma0, oI ma1, oI ma2, oD (FP.i2d v0), oV, oD (FP.i2d v1), oV, oD (FP.i2d v2), oV, oR b161, oR b175, oU, oU, oU, oU, oU, oU, oU] [] _
      refine XS.aload X187.here hx rfl (hb hby at_112) rfl rfl ?_
      show own_S p e below T187 m 114 _ [(.ref b161)] _
      refine XS.aload X187.here hx rfl (hb hby at_114) rfl rfl ?_
      show own_S p e below T187 m 116 _ [(.ref b175), (.ref b161)] _
      refine XS.iload X187.here hx rfl (hb hby at_116) rfl ?_
      show own_S p e below T187 m 118 _ [(.int 2), (.ref b175), (.ref b161)] _
      refine st190 _ ?_
      show own_S p e below T190 m 121 _ [(.int orr_190)] _
      refine XS.istore X190.here hx rfl (hb hby at_121) rfl (l' := #[oI p0, oI p1, oI p2, oI p3, oI p4, oI 2, oI ma0, oI ma1, oI ma2, oD (FP.i2d v0), oV, oD (FP.i2d v1), oV, oD (FP.i2d v2), oV, oR b161, oR b175, oI orr_190, oU, oU, oU, oU, oU, oU]) rfl ?_
      show own_S p e below T190 m 123 #[oI p0, oI p1, oI p2, oI p3, oI p4, oI 2, oI ma0, oI ma1, oI ma2, oD (FP.i2d v0), oV, oD (FP.i2d v1), oV, oD (FP.i2d v2), oV, oR b161, oR b175, oI orr_190, oU, oU, oU, oU, oU, oU] [] _
      refine XS.iconst X190.here hx rfl (hb hby at_123) ?_
      show own_S p e below T190 m 124 _ [(.int 3)] _
      refine st192 _ ?_
      show own_S p e below T192 m 126 _ [(.ref b192)] _
      refine XS.dup X192.here hx rfl (hb hby at_126) rfl rfl ?_
      show own_S p e below T192 m 127 _ [(.ref b192), (.ref b192)] _
      refine XS.iconst X192.here hx rfl (hb hby at_127) ?_
      show own_S p e below T192 m 128 _ [(.int 0), (.ref b192), (.ref b192)] _
      refine XS.iload X192.here hx rfl (hb hby at_128) rfl ?_
      show own_S p e below T192 m 130 _ [(.int ma0), (.int 0), (.ref b192), (.ref b192)] _
      refine st196 _ ?_
      show own_S p e below T196 m 131 _ [(.ref b192)] _
      refine XS.dup X196.here hx rfl (hb hby at_131) rfl rfl ?_
      show own_S p e below T196 m 132 #[oI p0, oI p1, oI p2, oI p3, oI p4, oI 2, oI ma0, oI ma1, oI ma2, oD (FP.i2d v0), oV, oD (FP.i2d v1), oV, oD (FP.i2d v2), oV, oR b161, oR b175, oI orr_190, oU, oU, oU, oU, oU, oU] [(.ref b192), (.ref b192)] _
      refine XS.iconst X196.here hx rfl (hb hby at_132) ?_
      show own_S p e below T196 m 133 _ [(.int 1), (.ref b192), (.ref b192)] _
      refine XS.iload X196.here hx rfl (hb hby at_133) rfl ?_
      show own_S p e below T196 m 135 _ [(.int ma1), (.int 1), (.ref b192), (.ref b192)] _
      refine st200 _ ?_
      show own_S p e below T200 m 136 _ [(.ref b192)] _
      refine XS.dup X200.here hx rfl (hb hby at_136) rfl rfl ?_
      show own_S p e below T200 m 137 _ [(.ref b192), (.ref b192)] _
      refine XS.iconst X200.here hx rfl (hb hby at_137) ?_
      show own_S p e below T200 m 138 _ [(.int 2), (.ref b192), (.ref b192)] _
      refine XS.iload X200.here hx rfl (hb hby at_138) rfl ?_
      show own_S p e below T200 m 140 _ [(.int ma2), (.int 2), (.ref b192), (.ref b192)] _
      refine st204 _ ?_
      show own_S p e below T204 m 141 #[oI p0, oI p1, oI p2, oI p3, oI p4, oI 2, oI ma0, oI ma1, oI ma2, oD (FP.i2d v0), oV, oD (FP.i2d v1), oV, oD (FP.i2d v2), oV, oR b161, oR b175, oI orr_190, oU, oU, oU, oU, oU, oU] [(.ref b192)] _
      refine XS.astore X204.here hx rfl (hb hby at_141) rfl rfl (l' := #[oI p0, oI p1, oI p2, oI p3, oI p4, oI 2, oI ma0, oI ma1, oI ma2, oD (FP.i2d v0), oV, oD (FP.i2d v1), oV, oD (FP.i2d v2), oV, oR b161, oR b175, oI orr_190, oR b192, oU, oU, oU, oU, oU]) rfl ?_
      show own_S p e below T204 m 143 #[oI p0, oI p1, oI p2, oI p3, oI p4, oI 2, oI ma0, oI ma1, oI ma2, oD (FP.i2d v0), oV, oD (FP.i2d v1), oV, oD (FP.i2d v2), oV, oR b161, oR b175, oI orr_190, oR b192, oU, oU, oU, oU, oU] [] _
      refine XS.iconst X204.here hx rfl (hb hby at_143) ?_
      show own_S p e below T204 m 144 _ [(.int 0)] _
      refine XS.istore X204.here hx rfl (hb hby at_144) rfl (l' := #[oI p0, oI p1, oI p2, oI p3, oI p4, oI 2, oI ma0, oI ma1, oI ma2, oD (FP.i2d v0), oV, oD (FP.i2d v1), oV, oD (FP.i2d v2), oV, oR b161, oR b175, oI orr_190, oR b192, oI 0, oU, oU, oU, oU]) rfl ?_
      show own_S p e below T204 m 146 #[oI p0, oI p1, oI p2, oI p3, oI p4, oI 2, oI ma0, oI ma1, oI ma2, oD (FP.i2d v0), oV, oD (FP.i2d v1), oV, oD (FP.i2d v2), oV, oR b161, oR b175, oI orr_190, oR b192, oI 0, oU, oU, oU, oU] [] _
      refine XS.iload X204.here hx rfl (hb hby at_146) rfl ?_
      show own_S p e below T204 m 148 _ [(.int 2)] _
      refine XS.iconst X204.here hx rfl (hb hby at_148) ?_
      show own_S p e below T204 m 149 _ [(.int 2), (.int 2)] _
      refine XS.icmpNo X204.here hx rfl (hb hby at_149) rfl (teq (by decide : (2 : Int32) = (2 : Int32))).2 ?_
      show own_S p e below T204 m 152 _ [] _
      refine XS.iload X204.here hx rfl (hb hby at_152) rfl ?_
      show own_S p e below T204 m 154 _ [(.int ma0)] _
      refine XS.iload X204.here hx rfl (hb hby at_154) rfl ?_
      exact kt
    by_cases e01 : ma0 = ma1
    · skip
      have pre207 : ∀ t, Steps p.tables e below (T204.setTop (mkF m 163 #[oI p0, oI p1, oI p2, oI p3, oI p4, oI 2, oI ma0, oI ma1, oI ma2, oD (FP.i2d v0), oV, oD (FP.i2d v1), oV, oD (FP.i2d v2), oV, oR b161, oR b175, oI orr_190, oR b192, oI 0, oU, oU, oU, oU] [(.int ma2), (.int ma1)])) t → Steps p.tables e below (s₁.setTop (mkF m 0 #[oI p0, oI p1, oI p2, oI p3, oI p4, oU, oU, oU, oU, oU, oU, oU, oU, oU, oU, oU, oU, oU, oU, oU, oU, oU, oU, oU] [])) t := by
        intro t kt
        refine pre206 _ ?_
        show own_S p e below T204 m 156 #[oI p0, oI p1, oI p2, oI p3, oI p4, oI 2, oI ma0, oI ma1, oI ma2, oD (FP.i2d v0), oV, oD (FP.i2d v1), oV, oD (FP.i2d v2), oV, oR b161, oR b175, oI orr_190, oR b192, oI 0, oU, oU, oU, oU] [(.int ma1), (.int ma0)] _
        refine XS.icmpNo X204.here hx rfl (hb hby at_156) rfl (teq (e01 : ma0 = ma1)).2 ?_
        show own_S p e below T204 m 159 _ [] _
        refine XS.iload X204.here hx rfl (hb hby at_159) rfl ?_
        show own_S p e below T204 m 161 _ [(.int ma1)] _
        refine XS.iload X204.here hx rfl (hb hby at_161) rfl ?_
        exact kt
      by_cases e12 : ma1 = ma2
      · skip
        obtain ⟨_, _, ⟨T208, L208, k208, n208⟩, -, X208, ⟨Lc208, hQ208, l208, y208, z208⟩, st208⟩ := Jvm.LawKit.callS X204 hx (y := (⟨"com/example/metasearch/metasearch/EmptyClustersFillPinLaw", "worst", "(ZZZDDD)I"⟩ : MethodName)) hown (mvT hZ (own_w hw 7 rfl)) (mvT hZ (own_w hw 8 rfl)) (mvT hZ (own_w hw 9 rfl)) (mvT hZ (own_w hw 10 rfl)) (by decide) (backOf (W := 0) (rmw111 l Z a0 hw [] (FP.i2d v0) (FP.i2d v1) (FP.i2d v2) x y z h204 n0 ZZ205 gx gy gz lx) hZ (own_w hw 10 rfl) (own_w hw 9 rfl) (by decide) (by decide)) (g := (mkF m 175 #[oI p0, oI p1, oI p2, oI p3, oI p4, oI 2, oI ma0, oI ma1, oI ma2, oD (FP.i2d v0), oV, oD (FP.i2d v1), oV, oD (FP.i2d v2), oV, oR b161, oR b175, oI orr_190, oR b192, oI 0, oU, oU, oU, oU] [(.double (FP.i2d v2)), (.double (FP.i2d v1)), (.double (FP.i2d v0)), (.int 1), (.int 1), (.int 1)])) rfl (by rw [hml]; rfl) (argsL := [(.int 1), (.int 1), (.int 1), (.double (FP.i2d v0)), (.double (FP.i2d v1)), (.double (FP.i2d v2))]) (rest := []) (lenOf pd1 rfl) rfl (by show 2 * 0 + _ ≤ _; exact Nat.le_of_eq rfl) (hb hby at_175) (fun _ _ => ⟨rfl, e204, (by decide : 4 + 0 ≤ _), (by decide : 11 + 0 ≤ _)⟩)
        dsimp only [Pt.U, Pt.locs, Pt.cells, Pt.slots] at X208 l208 y208 z208 st208 hQ208
        subst l208 y208 z208
        obtain ⟨rfl, Nq208, P208_0⟩ := hQ208
        have N208 := Fr.app N204 Nq208
        obtain ⟨cl209, Ar209, qk209, Sz209, Nz209, Hh209, Gg209⟩ := id Va204
        have hin210 : ¬ ((own_h111 x y z) < 0 ∨ cl209.slots.size ≤ ((own_h111 x y z)).toNatClampNeg) := inb_of Sz209 (own_b3 (own_h111r x y z))
        obtain ⟨T211, h211, X211, e211, W211, st211⟩ := stI X208 hx hZ P208_0 Ar209 (j := (own_h111 x y z)) hin210 (g := (mkF m 188 #[oI p0, oI p1, oI p2, oI p3, oI p4, oI 2, oI ma0, oI ma1, oI ma2, oD (FP.i2d v0), oV, oD (FP.i2d v1), oV, oD (FP.i2d v2), oV, oR b161, oR b175, oI orr_190, oR b192, oI 0, oI (own_h111 x y z), oU, oU, oU] [(.int ((1 : Int32) - ma0)), (.int (own_h111 x y z)), (.ref b192)])) rfl rfl (hb hby at_188)
        have Va211 := Arv.set Ar209 qk209 Sz209 Nz209 Hh209 Gg209 rfl W211 ((own_h111 x y z)).toNatClampNeg rfl (own_l3 (own_h111r x y z))
        have Vs211 : Arv Z h211 b192 k192 .int (3 : Int32) [(.int (own_p 0 (own_h111 x y z) ((1 : Int32) - ma0) ma0)), (.int (own_p 1 (own_h111 x y z) ((1 : Int32) - ma0) ma1)), (.int (own_p 2 (own_h111 x y z) ((1 : Int32) - ma0) ma2))] (.int 0) := by rw [← (own_s3 (own_h111r x y z) : ([(.int ma0), (.int ma1), (.int ma2)] : List Value).set ((own_h111 x y z)).toNatClampNeg (.int ((1 : Int32) - ma0)) = [(.int (own_p 0 (own_h111 x y z) ((1 : Int32) - ma0) ma0)), (.int (own_p 1 (own_h111 x y z) ((1 : Int32) - ma0) ma1)), (.int (own_p 2 (own_h111 x y z) ((1 : Int32) - ma0) ma2))])]; exact Va211
        have N211 := Fr.snoc X211 N208 g_b192
        have ZZ212 : n0 ≤ h211.size := Nat.le_trans ZZ205 (Nat.le_of_eq W211.size.symm)
        have hE := own_E2e x y z ra0 ra1 ra2 e01 e12
        have Fc213 := (((((P190_1.ext E192).other W196 (Nat.ne_of_lt (Nat.lt_of_lt_of_le P190_1.lt (Nat.le_of_eq g192.symm)))).other W200 (Nat.ne_of_lt (Nat.lt_of_lt_of_le P190_1.lt (Nat.le_of_eq g192.symm)))).other W204 (Nat.ne_of_lt (Nat.lt_of_lt_of_le P190_1.lt (Nat.le_of_eq g192.symm)))).other W211 (Nat.ne_of_lt (Nat.lt_of_lt_of_le P190_1.lt (Nat.le_of_eq g192.symm))))
        obtain ⟨cl214, Ar214, qk214, Sz214, Nz214, Hh214, Gg214⟩ := id Fc213
        have hin215 : ¬ ((0 : Int32) < 0 ∨ cl214.slots.size ≤ ((0 : Int32)).toNatClampNeg) := inb_of Sz214 ⟨by decide, by decide⟩
        have hat215 : cl214.slots[((0 : Int32)).toNatClampNeg]? = some (.int o0_190) := Has.at Hh214 hin215 rfl
        obtain ⟨cl216, Ar216, qk216, Sz216, Nz216, Hh216, Gg216⟩ := id Vs211
        have hin217 : ¬ ((0 : Int32) < 0 ∨ cl216.slots.size ≤ ((0 : Int32)).toNatClampNeg) := inb_of Sz216 ⟨by decide, by decide⟩
        have hat217 : cl216.slots[((0 : Int32)).toNatClampNeg]? = some (.int (own_p 0 (own_h111 x y z) ((1 : Int32) - ma0) ma0)) := Has.at Hh216 hin217 rfl
        have hin218 : ¬ ((1 : Int32) < 0 ∨ cl214.slots.size ≤ ((1 : Int32)).toNatClampNeg) := inb_of Sz214 ⟨by decide, by decide⟩
        have hat218 : cl214.slots[((1 : Int32)).toNatClampNeg]? = some (.int o1_190) := Has.at Hh214 hin218 rfl
        have hin219 : ¬ ((1 : Int32) < 0 ∨ cl216.slots.size ≤ ((1 : Int32)).toNatClampNeg) := inb_of Sz216 ⟨by decide, by decide⟩
        have hat219 : cl216.slots[((1 : Int32)).toNatClampNeg]? = some (.int (own_p 1 (own_h111 x y z) ((1 : Int32) - ma0) ma1)) := Has.at Hh216 hin219 rfl
        have hin220 : ¬ ((2 : Int32) < 0 ∨ cl214.slots.size ≤ ((2 : Int32)).toNatClampNeg) := inb_of Sz214 ⟨by decide, by decide⟩
        have hat220 : cl214.slots[((2 : Int32)).toNatClampNeg]? = some (.int o2_190) := Has.at Hh214 hin220 rfl
        have hin221 : ¬ ((2 : Int32) < 0 ∨ cl216.slots.size ≤ ((2 : Int32)).toNatClampNeg) := inb_of Sz216 ⟨by decide, by decide⟩
        have hat221 : cl216.slots[((2 : Int32)).toNatClampNeg]? = some (.int (own_p 2 (own_h111 x y z) ((1 : Int32) - ma0) ma2)) := Has.at Hh216 hin221 rfl
        have Fc222 := ((((((Va187.keep P190_0 (ninS (Ne.symm (Nat.ne_of_lt (Nat.lt_of_lt_of_le Va173.lt (Nat.le_of_eq g175.symm)))) nin0)).ext E192).other W196 (Nat.ne_of_lt (Nat.lt_of_lt_of_le (Va187.keep P190_0 (ninS (Ne.symm (Nat.ne_of_lt (Nat.lt_of_lt_of_le Va173.lt (Nat.le_of_eq g175.symm)))) nin0)).lt (Nat.le_of_eq g192.symm)))).other W200 (Nat.ne_of_lt (Nat.lt_of_lt_of_le (Va187.keep P190_0 (ninS (Ne.symm (Nat.ne_of_lt (Nat.lt_of_lt_of_le Va173.lt (Nat.le_of_eq g175.symm)))) nin0)).lt (Nat.le_of_eq g192.symm)))).other W204 (Nat.ne_of_lt (Nat.lt_of_lt_of_le (Va187.keep P190_0 (ninS (Ne.symm (Nat.ne_of_lt (Nat.lt_of_lt_of_le Va173.lt (Nat.le_of_eq g175.symm)))) nin0)).lt (Nat.le_of_eq g192.symm)))).other W211 (Nat.ne_of_lt (Nat.lt_of_lt_of_le (Va187.keep P190_0 (ninS (Ne.symm (Nat.ne_of_lt (Nat.lt_of_lt_of_le Va173.lt (Nat.le_of_eq g175.symm)))) nin0)).lt (Nat.le_of_eq g192.symm))))
        obtain ⟨cl223, Ar223, qk223, Sz223, Nz223, Hh223, Gg223⟩ := id Fc222
        have hin224 : ¬ ((0 : Int32) < 0 ∨ cl223.slots.size ≤ ((0 : Int32)).toNatClampNeg) := inb_of Sz223 ⟨by decide, by decide⟩
        have hat224 : cl223.slots[((0 : Int32)).toNatClampNeg]? = some (.double (FP.i2d v0)) := Has.at Hh223 hin224 rfl
        have hin225 : ¬ ((1 : Int32) < 0 ∨ cl223.slots.size ≤ ((1 : Int32)).toNatClampNeg) := inb_of Sz223 ⟨by decide, by decide⟩
        have hat225 : cl223.slots[((1 : Int32)).toNatClampNeg]? = some (.double (FP.i2d v1)) := Has.at Hh223 hin225 rfl
        have hin226 : ¬ ((2 : Int32) < 0 ∨ cl223.slots.size ≤ ((2 : Int32)).toNatClampNeg) := inb_of Sz223 ⟨by decide, by decide⟩
        have hat226 : cl223.slots[((2 : Int32)).toNatClampNeg]? = some (.double (FP.i2d v2)) := Has.at Hh223 hin226 rfl
        obtain ⟨fs, hr, hrun, hended, hW, hsame⟩ := X211.leave (v := some (.int 1)) (fun h => by rw [Bd.returns] at h; cases h)
        refine ⟨_, _, pre0 _ (pre207 _ ?_), hrun, hended, _, _, rfl, ?_, ⟨_, rfl⟩, hW, hsame.mono (by decide) (by decide)⟩
        · show own_S p e below T204 m 163 #[oI p0, oI p1, oI p2, oI p3, oI p4, oI 2, oI ma0, oI ma1, oI ma2, oD (FP.i2d v0), oV, oD (FP.i2d v1), oV, oD (FP.i2d v2), oV, oR b161, oR b175, oI orr_190, oR b192, oI 0, oU, oU, oU, oU] [(.int ma2), (.int ma1)] _
          refine XS.icmpNo X204.here hx rfl (hb hby at_163) rfl (teq (e12 : ma1 = ma2)).2 ?_
          show own_S p e below T204 m 166 _ [] _
          refine XS.iconst X204.here hx rfl (hb hby at_166) ?_
          show own_S p e below T204 m 167 _ [(.int 1)] _
          refine XS.iconst X204.here hx rfl (hb hby at_167) ?_
          show own_S p e below T204 m 168 _ [(.int 1), (.int 1)] _
          refine XS.iconst X204.here hx rfl (hb hby at_168) ?_
          show own_S p e below T204 m 169 _ [(.int 1), (.int 1), (.int 1)] _
          refine XS.dload X204.here hx rfl (hb hby at_169) rfl ?_
          show own_S p e below T204 m 171 _ [(.double (FP.i2d v0)), (.int 1), (.int 1), (.int 1)] _
          refine XS.dload X204.here hx rfl (hb hby at_171) rfl ?_
          show own_S p e below T204 m 173 _ [(.double (FP.i2d v1)), (.double (FP.i2d v0)), (.int 1), (.int 1), (.int 1)] _
          refine XS.dload X204.here hx rfl (hb hby at_173) rfl ?_
          show own_S p e below T204 m 175 #[oI p0, oI p1, oI p2, oI p3, oI p4, oI 2, oI ma0, oI ma1, oI ma2, oD (FP.i2d v0), oV, oD (FP.i2d v1), oV, oD (FP.i2d v2), oV, oR b161, oR b175, oI orr_190, oR b192, oI 0, oU, oU, oU, oU] [(.double (FP.i2d v2)), (.double (FP.i2d v1)), (.double (FP.i2d v0)), (.int 1), (.int 1), (.int 1)] _
          refine st208 _ ?_
          show own_S p e below T208 m 178 _ [(.int (own_h111 x y z))] _
          refine XS.istore X208.here hx rfl (hb hby at_178) rfl (l' := #[oI p0, oI p1, oI p2, oI p3, oI p4, oI 2, oI ma0, oI ma1, oI ma2, oD (FP.i2d v0), oV, oD (FP.i2d v1), oV, oD (FP.i2d v2), oV, oR b161, oR b175, oI orr_190, oR b192, oI 0, oI (own_h111 x y z), oU, oU, oU]) rfl ?_
          show own_S p e below T208 m 180 #[oI p0, oI p1, oI p2, oI p3, oI p4, oI 2, oI ma0, oI ma1, oI ma2, oD (FP.i2d v0), oV, oD (FP.i2d v1), oV, oD (FP.i2d v2), oV, oR b161, oR b175, oI orr_190, oR b192, oI 0, oI (own_h111 x y z), oU, oU, oU] [] _
          refine XS.aload X208.here hx rfl (hb hby at_180) rfl rfl ?_
          show own_S p e below T208 m 182 _ [(.ref b192)] _
          refine XS.iload X208.here hx rfl (hb hby at_182) rfl ?_
          show own_S p e below T208 m 184 _ [(.int (own_h111 x y z)), (.ref b192)] _
          refine XS.iconst X208.here hx rfl (hb hby at_184) ?_
          show own_S p e below T208 m 185 _ [(.int 1), (.int (own_h111 x y z)), (.ref b192)] _
          refine XS.iload X208.here hx rfl (hb hby at_185) rfl ?_
          show own_S p e below T208 m 187 _ [(.int ma0), (.int 1), (.int (own_h111 x y z)), (.ref b192)] _
          refine XS.isub X208.here hx rfl (hb hby at_187) rfl ?_
          show own_S p e below T208 m 188 _ [(.int ((1 : Int32) - ma0)), (.int (own_h111 x y z)), (.ref b192)] _
          refine st211 _ ?_
          show own_S p e below T211 m 189 _ [] _
          refine XS.iconst X211.here hx rfl (hb hby at_189) ?_
          show own_S p e below T211 m 190 #[oI p0, oI p1, oI p2, oI p3, oI p4, oI 2, oI ma0, oI ma1, oI ma2, oD (FP.i2d v0), oV, oD (FP.i2d v1), oV, oD (FP.i2d v2), oV, oR b161, oR b175, oI orr_190, oR b192, oI 0, oI (own_h111 x y z), oU, oU, oU] [(.int 1)] _
          refine XS.istore X211.here hx rfl (hb hby at_190) rfl (l' := #[oI p0, oI p1, oI p2, oI p3, oI p4, oI 2, oI ma0, oI ma1, oI ma2, oD (FP.i2d v0), oV, oD (FP.i2d v1), oV, oD (FP.i2d v2), oV, oR b161, oR b175, oI orr_190, oR b192, oI 1, oI (own_h111 x y z), oU, oU, oU]) rfl ?_
          show own_S p e below T211 m 192 #[oI p0, oI p1, oI p2, oI p3, oI p4, oI 2, oI ma0, oI ma1, oI ma2, oD (FP.i2d v0), oV, oD (FP.i2d v1), oV, oD (FP.i2d v2), oV, oR b161, oR b175, oI orr_190, oR b192, oI 1, oI (own_h111 x y z), oU, oU, oU] [] _
          refine XS.goto X211.here hx rfl (pc0 := 192) (pc' := 461) rfl (hb hby at_192) (by decide) (by decide) ?_
          show own_S p e below T211 m 461 _ [] _
          refine XS.iload X211.here hx rfl (hb hby at_461) rfl ?_
          show own_S p e below T211 m 463 _ [(.int orr_190)] _
          refine XS.iload X211.here hx rfl (hb hby at_463) rfl ?_
          show own_S p e below T211 m 465 _ [(.int 1), (.int orr_190)] _
          refine XS.icmpNo X211.here hx rfl (hb hby at_465) rfl (teq ((hPF.2.2.2.symm.trans hE.2.2.2) : orr_190 = (1 : Int32))).2 ?_
          show own_S p e below T211 m 468 _ [] _
          refine XS.aload X211.here hx rfl (hb hby at_468) rfl rfl ?_
          show own_S p e below T211 m 470 _ [(.ref b161)] _
          refine XS.iconst X211.here hx rfl (hb hby at_470) ?_
          show own_S p e below T211 m 471 _ [(.int 0), (.ref b161)] _
          refine X211.iaload hx (j := (0 : Int32)) (v := (.int o0_190)) (by rw [e211]; exact Ar214.1) (State.isArrayOf_alike hZ.alike Ar214.2.1) Ar214.2.2 hin215 hat215 (g := (mkF m 471 #[oI p0, oI p1, oI p2, oI p3, oI p4, oI 2, oI ma0, oI ma1, oI ma2, oD (FP.i2d v0), oV, oD (FP.i2d v1), oV, oD (FP.i2d v2), oV, oR b161, oR b175, oI orr_190, oR b192, oI 1, oI (own_h111 x y z), oU, oU, oU] [(.int 0), (.ref b161)])) rfl rfl (hb hby at_471) _ ?_
          show own_S p e below T211 m 472 #[oI p0, oI p1, oI p2, oI p3, oI p4, oI 2, oI ma0, oI ma1, oI ma2, oD (FP.i2d v0), oV, oD (FP.i2d v1), oV, oD (FP.i2d v2), oV, oR b161, oR b175, oI orr_190, oR b192, oI 1, oI (own_h111 x y z), oU, oU, oU] [(.int o0_190)] _
          refine XS.aload X211.here hx rfl (hb hby at_472) rfl rfl ?_
          show own_S p e below T211 m 474 _ [(.ref b192), (.int o0_190)] _
          refine XS.iconst X211.here hx rfl (hb hby at_474) ?_
          show own_S p e below T211 m 475 _ [(.int 0), (.ref b192), (.int o0_190)] _
          refine X211.iaload hx (j := (0 : Int32)) (v := (.int (own_p 0 (own_h111 x y z) ((1 : Int32) - ma0) ma0))) (by rw [e211]; exact Ar216.1) (State.isArrayOf_alike hZ.alike Ar216.2.1) Ar216.2.2 hin217 hat217 (g := (mkF m 475 #[oI p0, oI p1, oI p2, oI p3, oI p4, oI 2, oI ma0, oI ma1, oI ma2, oD (FP.i2d v0), oV, oD (FP.i2d v1), oV, oD (FP.i2d v2), oV, oR b161, oR b175, oI orr_190, oR b192, oI 1, oI (own_h111 x y z), oU, oU, oU] [(.int 0), (.ref b192), (.int o0_190)])) rfl rfl (hb hby at_475) _ ?_
          show own_S p e below T211 m 476 _ [(.int (own_p 0 (own_h111 x y z) ((1 : Int32) - ma0) ma0)), (.int o0_190)] _
          refine XS.icmpNo X211.here hx rfl (hb hby at_476) rfl (teq ((hPF.1.symm.trans hE.1) : o0_190 = (own_p 0 (own_h111 x y z) ((1 : Int32) - ma0) ma0))).2 ?_
          show own_S p e below T211 m 479 _ [] _
          refine XS.aload X211.here hx rfl (hb hby at_479) rfl rfl ?_
          show own_S p e below T211 m 481 _ [(.ref b161)] _
          refine XS.iconst X211.here hx rfl (hb hby at_481) ?_
          show own_S p e below T211 m 482 _ [(.int 1), (.ref b161)] _
          refine X211.iaload hx (j := (1 : Int32)) (v := (.int o1_190)) (by rw [e211]; exact Ar214.1) (State.isArrayOf_alike hZ.alike Ar214.2.1) Ar214.2.2 hin218 hat218 (g := (mkF m 482 #[oI p0, oI p1, oI p2, oI p3, oI p4, oI 2, oI ma0, oI ma1, oI ma2, oD (FP.i2d v0), oV, oD (FP.i2d v1), oV, oD (FP.i2d v2), oV, oR b161, oR b175, oI orr_190, oR b192, oI 1, oI (own_h111 x y z), oU, oU, oU] [(.int 1), (.ref b161)])) rfl rfl (hb hby at_482) _ ?_
          show own_S p e below T211 m 483 #[oI p0, oI p1, oI p2, oI p3, oI p4, oI 2, oI ma0, oI ma1, oI ma2, oD (FP.i2d v0), oV, oD (FP.i2d v1), oV, oD (FP.i2d v2), oV, oR b161, oR b175, oI orr_190, oR b192, oI 1, oI (own_h111 x y z), oU, oU, oU] [(.int o1_190)] _
          refine XS.aload X211.here hx rfl (hb hby at_483) rfl rfl ?_
          show own_S p e below T211 m 485 _ [(.ref b192), (.int o1_190)] _
          refine XS.iconst X211.here hx rfl (hb hby at_485) ?_
          show own_S p e below T211 m 486 _ [(.int 1), (.ref b192), (.int o1_190)] _
          refine X211.iaload hx (j := (1 : Int32)) (v := (.int (own_p 1 (own_h111 x y z) ((1 : Int32) - ma0) ma1))) (by rw [e211]; exact Ar216.1) (State.isArrayOf_alike hZ.alike Ar216.2.1) Ar216.2.2 hin219 hat219 (g := (mkF m 486 #[oI p0, oI p1, oI p2, oI p3, oI p4, oI 2, oI ma0, oI ma1, oI ma2, oD (FP.i2d v0), oV, oD (FP.i2d v1), oV, oD (FP.i2d v2), oV, oR b161, oR b175, oI orr_190, oR b192, oI 1, oI (own_h111 x y z), oU, oU, oU] [(.int 1), (.ref b192), (.int o1_190)])) rfl rfl (hb hby at_486) _ ?_
          show own_S p e below T211 m 487 _ [(.int (own_p 1 (own_h111 x y z) ((1 : Int32) - ma0) ma1)), (.int o1_190)] _
          refine XS.icmpNo X211.here hx rfl (hb hby at_487) rfl (teq ((hPF.2.1.symm.trans hE.2.1) : o1_190 = (own_p 1 (own_h111 x y z) ((1 : Int32) - ma0) ma1))).2 ?_
          show own_S p e below T211 m 490 _ [] _
          refine XS.aload X211.here hx rfl (hb hby at_490) rfl rfl ?_
          show own_S p e below T211 m 492 _ [(.ref b161)] _
          refine XS.iconst X211.here hx rfl (hb hby at_492) ?_
          show own_S p e below T211 m 493 _ [(.int 2), (.ref b161)] _
          refine X211.iaload hx (j := (2 : Int32)) (v := (.int o2_190)) (by rw [e211]; exact Ar214.1) (State.isArrayOf_alike hZ.alike Ar214.2.1) Ar214.2.2 hin220 hat220 (g := (mkF m 493 #[oI p0, oI p1, oI p2, oI p3, oI p4, oI 2, oI ma0, oI ma1, oI ma2, oD (FP.i2d v0), oV, oD (FP.i2d v1), oV, oD (FP.i2d v2), oV, oR b161, oR b175, oI orr_190, oR b192, oI 1, oI (own_h111 x y z), oU, oU, oU] [(.int 2), (.ref b161)])) rfl rfl (hb hby at_493) _ ?_
          show own_S p e below T211 m 494 #[oI p0, oI p1, oI p2, oI p3, oI p4, oI 2, oI ma0, oI ma1, oI ma2, oD (FP.i2d v0), oV, oD (FP.i2d v1), oV, oD (FP.i2d v2), oV, oR b161, oR b175, oI orr_190, oR b192, oI 1, oI (own_h111 x y z), oU, oU, oU] [(.int o2_190)] _
          refine XS.aload X211.here hx rfl (hb hby at_494) rfl rfl ?_
          show own_S p e below T211 m 496 _ [(.ref b192), (.int o2_190)] _
          refine XS.iconst X211.here hx rfl (hb hby at_496) ?_
          show own_S p e below T211 m 497 _ [(.int 2), (.ref b192), (.int o2_190)] _
          refine X211.iaload hx (j := (2 : Int32)) (v := (.int (own_p 2 (own_h111 x y z) ((1 : Int32) - ma0) ma2))) (by rw [e211]; exact Ar216.1) (State.isArrayOf_alike hZ.alike Ar216.2.1) Ar216.2.2 hin221 hat221 (g := (mkF m 497 #[oI p0, oI p1, oI p2, oI p3, oI p4, oI 2, oI ma0, oI ma1, oI ma2, oD (FP.i2d v0), oV, oD (FP.i2d v1), oV, oD (FP.i2d v2), oV, oR b161, oR b175, oI orr_190, oR b192, oI 1, oI (own_h111 x y z), oU, oU, oU] [(.int 2), (.ref b192), (.int o2_190)])) rfl rfl (hb hby at_497) _ ?_
          show own_S p e below T211 m 498 _ [(.int (own_p 2 (own_h111 x y z) ((1 : Int32) - ma0) ma2)), (.int o2_190)] _
          refine XS.icmpNo X211.here hx rfl (hb hby at_498) rfl (teq ((hPF.2.2.1.symm.trans hE.2.2.1) : o2_190 = (own_p 2 (own_h111 x y z) ((1 : Int32) - ma0) ma2))).2 ?_
          show own_S p e below T211 m 501 _ [] _
          refine XS.aload X211.here hx rfl (hb hby at_501) rfl rfl ?_
          show own_S p e below T211 m 503 _ [(.ref b175)] _
          refine XS.iconst X211.here hx rfl (hb hby at_503) ?_
          show own_S p e below T211 m 504 _ [(.int 0), (.ref b175)] _
          refine X211.daload hx (j := (0 : Int32)) (v := (.double (FP.i2d v0))) (by rw [e211]; exact Ar223.1) (State.isArrayOf_alike hZ.alike Ar223.2.1) Ar223.2.2 hin224 hat224 (g := (mkF m 504 #[oI p0, oI p1, oI p2, oI p3, oI p4, oI 2, oI ma0, oI ma1, oI ma2, oD (FP.i2d v0), oV, oD (FP.i2d v1), oV, oD (FP.i2d v2), oV, oR b161, oR b175, oI orr_190, oR b192, oI 1, oI (own_h111 x y z), oU, oU, oU] [(.int 0), (.ref b175)])) rfl rfl (hb hby at_504) _ ?_
          show own_S p e below T211 m 505 #[oI p0, oI p1, oI p2, oI p3, oI p4, oI 2, oI ma0, oI ma1, oI ma2, oD (FP.i2d v0), oV, oD (FP.i2d v1), oV, oD (FP.i2d v2), oV, oR b161, oR b175, oI orr_190, oR b192, oI 1, oI (own_h111 x y z), oU, oU, oU] [(.double (FP.i2d v0))] _
          refine XS.dload X211.here hx rfl (hb hby at_505) rfl ?_
          show own_S p e below T211 m 507 _ [(.double (FP.i2d v0)), (.double (FP.i2d v0))] _
          refine XS.dcmpS X211.here hx rfl (v := (0 : Int32)) (hb hby at_507) rfl (own_ieq (FP.Core.i2d_int v0) (FP.Core.i2d_int v0) rfl .l) ?_
          show own_S p e below T211 m 508 _ [(.int 0)] _
          refine XS.ifNo X211.here hx rfl (hb hby at_508) rfl ((if0 _ _).trans (teq (by decide : (0 : Int32) = (0 : Int32))).2) ?_
          show own_S p e below T211 m 511 _ [] _
          refine XS.aload X211.here hx rfl (hb hby at_511) rfl rfl ?_
          show own_S p e below T211 m 513 _ [(.ref b175)] _
          refine XS.iconst X211.here hx rfl (hb hby at_513) ?_
          show own_S p e below T211 m 514 _ [(.int 1), (.ref b175)] _
          refine X211.daload hx (j := (1 : Int32)) (v := (.double (FP.i2d v1))) (by rw [e211]; exact Ar223.1) (State.isArrayOf_alike hZ.alike Ar223.2.1) Ar223.2.2 hin225 hat225 (g := (mkF m 514 #[oI p0, oI p1, oI p2, oI p3, oI p4, oI 2, oI ma0, oI ma1, oI ma2, oD (FP.i2d v0), oV, oD (FP.i2d v1), oV, oD (FP.i2d v2), oV, oR b161, oR b175, oI orr_190, oR b192, oI 1, oI (own_h111 x y z), oU, oU, oU] [(.int 1), (.ref b175)])) rfl rfl (hb hby at_514) _ ?_
          show own_S p e below T211 m 515 _ [(.double (FP.i2d v1))] _
          refine XS.dload X211.here hx rfl (hb hby at_515) rfl ?_
          show own_S p e below T211 m 517 #[oI p0, oI p1, oI p2, oI p3, oI p4, oI 2, oI ma0, oI ma1, oI ma2, oD (FP.i2d v0), oV, oD (FP.i2d v1), oV, oD (FP.i2d v2), oV, oR b161, oR b175, oI orr_190, oR b192, oI 1, oI (own_h111 x y z), oU, oU, oU] [(.double (FP.i2d v1)), (.double (FP.i2d v1))] _
          refine XS.dcmpS X211.here hx rfl (v := (0 : Int32)) (hb hby at_517) rfl (own_ieq (FP.Core.i2d_int v1) (FP.Core.i2d_int v1) rfl .l) ?_
          show own_S p e below T211 m 518 _ [(.int 0)] _
          refine XS.ifNo X211.here hx rfl (hb hby at_518) rfl ((if0 _ _).trans (teq (by decide : (0 : Int32) = (0 : Int32))).2) ?_
          show own_S p e below T211 m 521 _ [] _
          refine XS.aload X211.here hx rfl (hb hby at_521) rfl rfl ?_
          show own_S p e below T211 m 523 _ [(.ref b175)] _
          refine XS.iconst X211.here hx rfl (hb hby at_523) ?_
          show own_S p e below T211 m 524 _ [(.int 2), (.ref b175)] _
          refine X211.daload hx (j := (2 : Int32)) (v := (.double (FP.i2d v2))) (by rw [e211]; exact Ar223.1) (State.isArrayOf_alike hZ.alike Ar223.2.1) Ar223.2.2 hin226 hat226 (g := (mkF m 524 #[oI p0, oI p1, oI p2, oI p3, oI p4, oI 2, oI ma0, oI ma1, oI ma2, oD (FP.i2d v0), oV, oD (FP.i2d v1), oV, oD (FP.i2d v2), oV, oR b161, oR b175, oI orr_190, oR b192, oI 1, oI (own_h111 x y z), oU, oU, oU] [(.int 2), (.ref b175)])) rfl rfl (hb hby at_524) _ ?_
          show own_S p e below T211 m 525 _ [(.double (FP.i2d v2))] _
          refine XS.dload X211.here hx rfl (hb hby at_525) rfl ?_
          show own_S p e below T211 m 527 _ [(.double (FP.i2d v2)), (.double (FP.i2d v2))] _
          refine XS.dcmpS X211.here hx rfl (v := (0 : Int32)) (hb hby at_527) rfl (own_ieq (FP.Core.i2d_int v2) (FP.Core.i2d_int v2) rfl .l) ?_
          show own_S p e below T211 m 528 #[oI p0, oI p1, oI p2, oI p3, oI p4, oI 2, oI ma0, oI ma1, oI ma2, oD (FP.i2d v0), oV, oD (FP.i2d v1), oV, oD (FP.i2d v2), oV, oR b161, oR b175, oI orr_190, oR b192, oI 1, oI (own_h111 x y z), oU, oU, oU] [(.int 0)] _
          refine XS.ifNo X211.here hx rfl (hb hby at_528) rfl ((if0 _ _).trans (teq (by decide : (0 : Int32) = (0 : Int32))).2) ?_
          show own_S p e below T211 m 531 _ [] _
          refine XS.iconst X211.here hx rfl (hb hby at_531) ?_
          show own_S p e below T211 m 532 _ [(.int 1)] _
          refine XS.goto X211.here hx rfl (pc0 := 532) (pc' := 536) rfl (hb hby at_532) (by decide) (by decide) ?_
          show own_S p e below T211 m 536 _ [(.int 1)] _
          exact retN X211 hx (t := .boolean) Bd.returns (by simp) (hb hby at_536) hr
        · show Qm0 Z p0 p1 p2 p3 p4 h0 n0 _ T211.heap _
          rw [e211]
          exact ⟨rfl, N211⟩
      · skip
        have hE := own_E2n x y z ra0 ra1 ra2 (fun q => e12 q.2)
        have Fc227 := ((((P190_1.ext E192).other W196 (Nat.ne_of_lt (Nat.lt_of_lt_of_le P190_1.lt (Nat.le_of_eq g192.symm)))).other W200 (Nat.ne_of_lt (Nat.lt_of_lt_of_le P190_1.lt (Nat.le_of_eq g192.symm)))).other W204 (Nat.ne_of_lt (Nat.lt_of_lt_of_le P190_1.lt (Nat.le_of_eq g192.symm))))
        obtain ⟨cl228, Ar228, qk228, Sz228, Nz228, Hh228, Gg228⟩ := id Fc227
        have hin229 : ¬ ((0 : Int32) < 0 ∨ cl228.slots.size ≤ ((0 : Int32)).toNatClampNeg) := inb_of Sz228 ⟨by decide, by decide⟩
        have hat229 : cl228.slots[((0 : Int32)).toNatClampNeg]? = some (.int o0_190) := Has.at Hh228 hin229 rfl
        obtain ⟨cl230, Ar230, qk230, Sz230, Nz230, Hh230, Gg230⟩ := id Va204
        have hin231 : ¬ ((0 : Int32) < 0 ∨ cl230.slots.size ≤ ((0 : Int32)).toNatClampNeg) := inb_of Sz230 ⟨by decide, by decide⟩
        have hat231 : cl230.slots[((0 : Int32)).toNatClampNeg]? = some (.int ma0) := Has.at Hh230 hin231 rfl
        have hin232 : ¬ ((1 : Int32) < 0 ∨ cl228.slots.size ≤ ((1 : Int32)).toNatClampNeg) := inb_of Sz228 ⟨by decide, by decide⟩
        have hat232 : cl228.slots[((1 : Int32)).toNatClampNeg]? = some (.int o1_190) := Has.at Hh228 hin232 rfl
        have hin233 : ¬ ((1 : Int32) < 0 ∨ cl230.slots.size ≤ ((1 : Int32)).toNatClampNeg) := inb_of Sz230 ⟨by decide, by decide⟩
        have hat233 : cl230.slots[((1 : Int32)).toNatClampNeg]? = some (.int ma1) := Has.at Hh230 hin233 rfl
        have hin234 : ¬ ((2 : Int32) < 0 ∨ cl228.slots.size ≤ ((2 : Int32)).toNatClampNeg) := inb_of Sz228 ⟨by decide, by decide⟩
        have hat234 : cl228.slots[((2 : Int32)).toNatClampNeg]? = some (.int o2_190) := Has.at Hh228 hin234 rfl
        have hin235 : ¬ ((2 : Int32) < 0 ∨ cl230.slots.size ≤ ((2 : Int32)).toNatClampNeg) := inb_of Sz230 ⟨by decide, by decide⟩
        have hat235 : cl230.slots[((2 : Int32)).toNatClampNeg]? = some (.int ma2) := Has.at Hh230 hin235 rfl
        have Fc236 := (((((Va187.keep P190_0 (ninS (Ne.symm (Nat.ne_of_lt (Nat.lt_of_lt_of_le Va173.lt (Nat.le_of_eq g175.symm)))) nin0)).ext E192).other W196 (Nat.ne_of_lt (Nat.lt_of_lt_of_le (Va187.keep P190_0 (ninS (Ne.symm (Nat.ne_of_lt (Nat.lt_of_lt_of_le Va173.lt (Nat.le_of_eq g175.symm)))) nin0)).lt (Nat.le_of_eq g192.symm)))).other W200 (Nat.ne_of_lt (Nat.lt_of_lt_of_le (Va187.keep P190_0 (ninS (Ne.symm (Nat.ne_of_lt (Nat.lt_of_lt_of_le Va173.lt (Nat.le_of_eq g175.symm)))) nin0)).lt (Nat.le_of_eq g192.symm)))).other W204 (Nat.ne_of_lt (Nat.lt_of_lt_of_le (Va187.keep P190_0 (ninS (Ne.symm (Nat.ne_of_lt (Nat.lt_of_lt_of_le Va173.lt (Nat.le_of_eq g175.symm)))) nin0)).lt (Nat.le_of_eq g192.symm))))
        obtain ⟨cl237, Ar237, qk237, Sz237, Nz237, Hh237, Gg237⟩ := id Fc236
        have hin238 : ¬ ((0 : Int32) < 0 ∨ cl237.slots.size ≤ ((0 : Int32)).toNatClampNeg) := inb_of Sz237 ⟨by decide, by decide⟩
        have hat238 : cl237.slots[((0 : Int32)).toNatClampNeg]? = some (.double (FP.i2d v0)) := Has.at Hh237 hin238 rfl
        have hin239 : ¬ ((1 : Int32) < 0 ∨ cl237.slots.size ≤ ((1 : Int32)).toNatClampNeg) := inb_of Sz237 ⟨by decide, by decide⟩
        have hat239 : cl237.slots[((1 : Int32)).toNatClampNeg]? = some (.double (FP.i2d v1)) := Has.at Hh237 hin239 rfl
        have hin240 : ¬ ((2 : Int32) < 0 ∨ cl237.slots.size ≤ ((2 : Int32)).toNatClampNeg) := inb_of Sz237 ⟨by decide, by decide⟩
        have hat240 : cl237.slots[((2 : Int32)).toNatClampNeg]? = some (.double (FP.i2d v2)) := Has.at Hh237 hin240 rfl
        obtain ⟨fs, hr, hrun, hended, hW, hsame⟩ := X204.leave (v := some (.int 1)) (fun h => by rw [Bd.returns] at h; cases h)
        refine ⟨_, _, pre0 _ (pre207 _ ?_), hrun, hended, _, _, rfl, ?_, ⟨_, rfl⟩, hW, hsame.mono (by decide) (by decide)⟩
        · show own_S p e below T204 m 163 #[oI p0, oI p1, oI p2, oI p3, oI p4, oI 2, oI ma0, oI ma1, oI ma2, oD (FP.i2d v0), oV, oD (FP.i2d v1), oV, oD (FP.i2d v2), oV, oR b161, oR b175, oI orr_190, oR b192, oI 0, oU, oU, oU, oU] [(.int ma2), (.int ma1)] _
          refine XS.icmpYes X204.here hx rfl (pc0 := 163) (pc' := 461) rfl (hb hby at_163) rfl (feq (e12 : ¬ (ma1 = ma2))).2 (by decide) (by decide) ?_
          show own_S p e below T204 m 461 _ [] _
          refine XS.iload X204.here hx rfl (hb hby at_461) rfl ?_
          show own_S p e below T204 m 463 _ [(.int orr_190)] _
          refine XS.iload X204.here hx rfl (hb hby at_463) rfl ?_
          show own_S p e below T204 m 465 _ [(.int 0), (.int orr_190)] _
          refine XS.icmpNo X204.here hx rfl (hb hby at_465) rfl (teq ((hPF.2.2.2.symm.trans hE.2.2.2) : orr_190 = (0 : Int32))).2 ?_
          show own_S p e below T204 m 468 _ [] _
          refine XS.aload X204.here hx rfl (hb hby at_468) rfl rfl ?_
          show own_S p e below T204 m 470 _ [(.ref b161)] _
          refine XS.iconst X204.here hx rfl (hb hby at_470) ?_
          show own_S p e below T204 m 471 _ [(.int 0), (.ref b161)] _
          refine X204.iaload hx (j := (0 : Int32)) (v := (.int o0_190)) (by rw [e204]; exact Ar228.1) (State.isArrayOf_alike hZ.alike Ar228.2.1) Ar228.2.2 hin229 hat229 (g := (mkF m 471 #[oI p0, oI p1, oI p2, oI p3, oI p4, oI 2, oI ma0, oI ma1, oI ma2, oD (FP.i2d v0), oV, oD (FP.i2d v1), oV, oD (FP.i2d v2), oV, oR b161, oR b175, oI orr_190, oR b192, oI 0, oU, oU, oU, oU] [(.int 0), (.ref b161)])) rfl rfl (hb hby at_471) _ ?_
          show own_S p e below T204 m 472 #[oI p0, oI p1, oI p2, oI p3, oI p4, oI 2, oI ma0, oI ma1, oI ma2, oD (FP.i2d v0), oV, oD (FP.i2d v1), oV, oD (FP.i2d v2), oV, oR b161, oR b175, oI orr_190, oR b192, oI 0, oU, oU, oU, oU] [(.int o0_190)] _
          refine XS.aload X204.here hx rfl (hb hby at_472) rfl rfl ?_
          show own_S p e below T204 m 474 _ [(.ref b192), (.int o0_190)] _
          refine XS.iconst X204.here hx rfl (hb hby at_474) ?_
          show own_S p e below T204 m 475 _ [(.int 0), (.ref b192), (.int o0_190)] _
          refine X204.iaload hx (j := (0 : Int32)) (v := (.int ma0)) (by rw [e204]; exact Ar230.1) (State.isArrayOf_alike hZ.alike Ar230.2.1) Ar230.2.2 hin231 hat231 (g := (mkF m 475 #[oI p0, oI p1, oI p2, oI p3, oI p4, oI 2, oI ma0, oI ma1, oI ma2, oD (FP.i2d v0), oV, oD (FP.i2d v1), oV, oD (FP.i2d v2), oV, oR b161, oR b175, oI orr_190, oR b192, oI 0, oU, oU, oU, oU] [(.int 0), (.ref b192), (.int o0_190)])) rfl rfl (hb hby at_475) _ ?_
          show own_S p e below T204 m 476 _ [(.int ma0), (.int o0_190)] _
          refine XS.icmpNo X204.here hx rfl (hb hby at_476) rfl (teq ((hPF.1.symm.trans hE.1) : o0_190 = ma0)).2 ?_
          show own_S p e below T204 m 479 _ [] _
          refine XS.aload X204.here hx rfl (hb hby at_479) rfl rfl ?_
          show own_S p e below T204 m 481 _ [(.ref b161)] _
          refine XS.iconst X204.here hx rfl (hb hby at_481) ?_
          show own_S p e below T204 m 482 _ [(.int 1), (.ref b161)] _
          refine X204.iaload hx (j := (1 : Int32)) (v := (.int o1_190)) (by rw [e204]; exact Ar228.1) (State.isArrayOf_alike hZ.alike Ar228.2.1) Ar228.2.2 hin232 hat232 (g := (mkF m 482 #[oI p0, oI p1, oI p2, oI p3, oI p4, oI 2, oI ma0, oI ma1, oI ma2, oD (FP.i2d v0), oV, oD (FP.i2d v1), oV, oD (FP.i2d v2), oV, oR b161, oR b175, oI orr_190, oR b192, oI 0, oU, oU, oU, oU] [(.int 1), (.ref b161)])) rfl rfl (hb hby at_482) _ ?_
          show own_S p e below T204 m 483 #[oI p0, oI p1, oI p2, oI p3, oI p4, oI 2, oI ma0, oI ma1, oI ma2, oD (FP.i2d v0), oV, oD (FP.i2d v1), oV, oD (FP.i2d v2), oV, oR b161, oR b175, oI orr_190, oR b192, oI 0, oU, oU, oU, oU] [(.int o1_190)] _
          refine XS.aload X204.here hx rfl (hb hby at_483) rfl rfl ?_
          show own_S p e below T204 m 485 _ [(.ref b192), (.int o1_190)] _
          refine XS.iconst X204.here hx rfl (hb hby at_485) ?_
          show own_S p e below T204 m 486 _ [(.int 1), (.ref b192), (.int o1_190)] _
          refine X204.iaload hx (j := (1 : Int32)) (v := (.int ma1)) (by rw [e204]; exact Ar230.1) (State.isArrayOf_alike hZ.alike Ar230.2.1) Ar230.2.2 hin233 hat233 (g := (mkF m 486 #[oI p0, oI p1, oI p2, oI p3, oI p4, oI 2, oI ma0, oI ma1, oI ma2, oD (FP.i2d v0), oV, oD (FP.i2d v1), oV, oD (FP.i2d v2), oV, oR b161, oR b175, oI orr_190, oR b192, oI 0, oU, oU, oU, oU] [(.int 1), (.ref b192), (.int o1_190)])) rfl rfl (hb hby at_486) _ ?_
          show own_S p e below T204 m 487 _ [(.int ma1), (.int o1_190)] _
          refine XS.icmpNo X204.here hx rfl (hb hby at_487) rfl (teq ((hPF.2.1.symm.trans hE.2.1) : o1_190 = ma1)).2 ?_
          show own_S p e below T204 m 490 _ [] _
          refine XS.aload X204.here hx rfl (hb hby at_490) rfl rfl ?_
          show own_S p e below T204 m 492 _ [(.ref b161)] _
          refine XS.iconst X204.here hx rfl (hb hby at_492) ?_
          show own_S p e below T204 m 493 _ [(.int 2), (.ref b161)] _
          refine X204.iaload hx (j := (2 : Int32)) (v := (.int o2_190)) (by rw [e204]; exact Ar228.1) (State.isArrayOf_alike hZ.alike Ar228.2.1) Ar228.2.2 hin234 hat234 (g := (mkF m 493 #[oI p0, oI p1, oI p2, oI p3, oI p4, oI 2, oI ma0, oI ma1, oI ma2, oD (FP.i2d v0), oV, oD (FP.i2d v1), oV, oD (FP.i2d v2), oV, oR b161, oR b175, oI orr_190, oR b192, oI 0, oU, oU, oU, oU] [(.int 2), (.ref b161)])) rfl rfl (hb hby at_493) _ ?_
          show own_S p e below T204 m 494 #[oI p0, oI p1, oI p2, oI p3, oI p4, oI 2, oI ma0, oI ma1, oI ma2, oD (FP.i2d v0), oV, oD (FP.i2d v1), oV, oD (FP.i2d v2), oV, oR b161, oR b175, oI orr_190, oR b192, oI 0, oU, oU, oU, oU] [(.int o2_190)] _
          refine XS.aload X204.here hx rfl (hb hby at_494) rfl rfl ?_
          show own_S p e below T204 m 496 _ [(.ref b192), (.int o2_190)] _
          refine XS.iconst X204.here hx rfl (hb hby at_496) ?_
          show own_S p e below T204 m 497 _ [(.int 2), (.ref b192), (.int o2_190)] _
          refine X204.iaload hx (j := (2 : Int32)) (v := (.int ma2)) (by rw [e204]; exact Ar230.1) (State.isArrayOf_alike hZ.alike Ar230.2.1) Ar230.2.2 hin235 hat235 (g := (mkF m 497 #[oI p0, oI p1, oI p2, oI p3, oI p4, oI 2, oI ma0, oI ma1, oI ma2, oD (FP.i2d v0), oV, oD (FP.i2d v1), oV, oD (FP.i2d v2), oV, oR b161, oR b175, oI orr_190, oR b192, oI 0, oU, oU, oU, oU] [(.int 2), (.ref b192), (.int o2_190)])) rfl rfl (hb hby at_497) _ ?_
          show own_S p e below T204 m 498 _ [(.int ma2), (.int o2_190)] _
          refine XS.icmpNo X204.here hx rfl (hb hby at_498) rfl (teq ((hPF.2.2.1.symm.trans hE.2.2.1) : o2_190 = ma2)).2 ?_
          show own_S p e below T204 m 501 _ [] _
          refine XS.aload X204.here hx rfl (hb hby at_501) rfl rfl ?_
          show own_S p e below T204 m 503 _ [(.ref b175)] _
          refine XS.iconst X204.here hx rfl (hb hby at_503) ?_
          show own_S p e below T204 m 504 _ [(.int 0), (.ref b175)] _
          refine X204.daload hx (j := (0 : Int32)) (v := (.double (FP.i2d v0))) (by rw [e204]; exact Ar237.1) (State.isArrayOf_alike hZ.alike Ar237.2.1) Ar237.2.2 hin238 hat238 (g := (mkF m 504 #[oI p0, oI p1, oI p2, oI p3, oI p4, oI 2, oI ma0, oI ma1, oI ma2, oD (FP.i2d v0), oV, oD (FP.i2d v1), oV, oD (FP.i2d v2), oV, oR b161, oR b175, oI orr_190, oR b192, oI 0, oU, oU, oU, oU] [(.int 0), (.ref b175)])) rfl rfl (hb hby at_504) _ ?_
          show own_S p e below T204 m 505 #[oI p0, oI p1, oI p2, oI p3, oI p4, oI 2, oI ma0, oI ma1, oI ma2, oD (FP.i2d v0), oV, oD (FP.i2d v1), oV, oD (FP.i2d v2), oV, oR b161, oR b175, oI orr_190, oR b192, oI 0, oU, oU, oU, oU] [(.double (FP.i2d v0))] _
          refine XS.dload X204.here hx rfl (hb hby at_505) rfl ?_
          show own_S p e below T204 m 507 _ [(.double (FP.i2d v0)), (.double (FP.i2d v0))] _
          refine XS.dcmpS X204.here hx rfl (v := (0 : Int32)) (hb hby at_507) rfl (own_ieq (FP.Core.i2d_int v0) (FP.Core.i2d_int v0) rfl .l) ?_
          show own_S p e below T204 m 508 _ [(.int 0)] _
          refine XS.ifNo X204.here hx rfl (hb hby at_508) rfl ((if0 _ _).trans (teq (by decide : (0 : Int32) = (0 : Int32))).2) ?_
          show own_S p e below T204 m 511 _ [] _
          refine XS.aload X204.here hx rfl (hb hby at_511) rfl rfl ?_
          show own_S p e below T204 m 513 _ [(.ref b175)] _
          refine XS.iconst X204.here hx rfl (hb hby at_513) ?_
          show own_S p e below T204 m 514 _ [(.int 1), (.ref b175)] _
          refine X204.daload hx (j := (1 : Int32)) (v := (.double (FP.i2d v1))) (by rw [e204]; exact Ar237.1) (State.isArrayOf_alike hZ.alike Ar237.2.1) Ar237.2.2 hin239 hat239 (g := (mkF m 514 #[oI p0, oI p1, oI p2, oI p3, oI p4, oI 2, oI ma0, oI ma1, oI ma2, oD (FP.i2d v0), oV, oD (FP.i2d v1), oV, oD (FP.i2d v2), oV, oR b161, oR b175, oI orr_190, oR b192, oI 0, oU, oU, oU, oU] [(.int 1), (.ref b175)])) rfl rfl (hb hby at_514) _ ?_
          show own_S p e below T204 m 515 _ [(.double (FP.i2d v1))] _
          refine XS.dload X204.here hx rfl (hb hby at_515) rfl ?_
          show own_S p e below T204 m 517 #[oI p0, oI p1, oI p2, oI p3, oI p4, oI 2, oI ma0, oI ma1, oI ma2, oD (FP.i2d v0), oV, oD (FP.i2d v1), oV, oD (FP.i2d v2), oV, oR b161, oR b175, oI orr_190, oR b192, oI 0, oU, oU, oU, oU] [(.double (FP.i2d v1)), (.double (FP.i2d v1))] _
          refine XS.dcmpS X204.here hx rfl (v := (0 : Int32)) (hb hby at_517) rfl (own_ieq (FP.Core.i2d_int v1) (FP.Core.i2d_int v1) rfl .l) ?_
          show own_S p e below T204 m 518 _ [(.int 0)] _
          refine XS.ifNo X204.here hx rfl (hb hby at_518) rfl ((if0 _ _).trans (teq (by decide : (0 : Int32) = (0 : Int32))).2) ?_
          show own_S p e below T204 m 521 _ [] _
          refine XS.aload X204.here hx rfl (hb hby at_521) rfl rfl ?_
          show own_S p e below T204 m 523 _ [(.ref b175)] _
          refine XS.iconst X204.here hx rfl (hb hby at_523) ?_
          show own_S p e below T204 m 524 _ [(.int 2), (.ref b175)] _
          refine X204.daload hx (j := (2 : Int32)) (v := (.double (FP.i2d v2))) (by rw [e204]; exact Ar237.1) (State.isArrayOf_alike hZ.alike Ar237.2.1) Ar237.2.2 hin240 hat240 (g := (mkF m 524 #[oI p0, oI p1, oI p2, oI p3, oI p4, oI 2, oI ma0, oI ma1, oI ma2, oD (FP.i2d v0), oV, oD (FP.i2d v1), oV, oD (FP.i2d v2), oV, oR b161, oR b175, oI orr_190, oR b192, oI 0, oU, oU, oU, oU] [(.int 2), (.ref b175)])) rfl rfl (hb hby at_524) _ ?_
          show own_S p e below T204 m 525 _ [(.double (FP.i2d v2))] _
          refine XS.dload X204.here hx rfl (hb hby at_525) rfl ?_
          show own_S p e below T204 m 527 _ [(.double (FP.i2d v2)), (.double (FP.i2d v2))] _
          refine XS.dcmpS X204.here hx rfl (v := (0 : Int32)) (hb hby at_527) rfl (own_ieq (FP.Core.i2d_int v2) (FP.Core.i2d_int v2) rfl .l) ?_
          show own_S p e below T204 m 528 #[oI p0, oI p1, oI p2, oI p3, oI p4, oI 2, oI ma0, oI ma1, oI ma2, oD (FP.i2d v0), oV, oD (FP.i2d v1), oV, oD (FP.i2d v2), oV, oR b161, oR b175, oI orr_190, oR b192, oI 0, oU, oU, oU, oU] [(.int 0)] _
          refine XS.ifNo X204.here hx rfl (hb hby at_528) rfl ((if0 _ _).trans (teq (by decide : (0 : Int32) = (0 : Int32))).2) ?_
          show own_S p e below T204 m 531 _ [] _
          refine XS.iconst X204.here hx rfl (hb hby at_531) ?_
          show own_S p e below T204 m 532 _ [(.int 1)] _
          refine XS.goto X204.here hx rfl (pc0 := 532) (pc' := 536) rfl (hb hby at_532) (by decide) (by decide) ?_
          show own_S p e below T204 m 536 _ [(.int 1)] _
          exact retN X204 hx (t := .boolean) Bd.returns (by simp) (hb hby at_536) hr
        · show Qm0 Z p0 p1 p2 p3 p4 h0 n0 _ T204.heap _
          rw [e204]
          exact ⟨rfl, N204⟩
    · skip
      have hE := own_E2n x y z ra0 ra1 ra2 (fun q => e01 q.1)
      have Fc241 := ((((P190_1.ext E192).other W196 (Nat.ne_of_lt (Nat.lt_of_lt_of_le P190_1.lt (Nat.le_of_eq g192.symm)))).other W200 (Nat.ne_of_lt (Nat.lt_of_lt_of_le P190_1.lt (Nat.le_of_eq g192.symm)))).other W204 (Nat.ne_of_lt (Nat.lt_of_lt_of_le P190_1.lt (Nat.le_of_eq g192.symm))))
      obtain ⟨cl242, Ar242, qk242, Sz242, Nz242, Hh242, Gg242⟩ := id Fc241
      have hin243 : ¬ ((0 : Int32) < 0 ∨ cl242.slots.size ≤ ((0 : Int32)).toNatClampNeg) := inb_of Sz242 ⟨by decide, by decide⟩
      have hat243 : cl242.slots[((0 : Int32)).toNatClampNeg]? = some (.int o0_190) := Has.at Hh242 hin243 rfl
      obtain ⟨cl244, Ar244, qk244, Sz244, Nz244, Hh244, Gg244⟩ := id Va204
      have hin245 : ¬ ((0 : Int32) < 0 ∨ cl244.slots.size ≤ ((0 : Int32)).toNatClampNeg) := inb_of Sz244 ⟨by decide, by decide⟩
      have hat245 : cl244.slots[((0 : Int32)).toNatClampNeg]? = some (.int ma0) := Has.at Hh244 hin245 rfl
      have hin246 : ¬ ((1 : Int32) < 0 ∨ cl242.slots.size ≤ ((1 : Int32)).toNatClampNeg) := inb_of Sz242 ⟨by decide, by decide⟩
      have hat246 : cl242.slots[((1 : Int32)).toNatClampNeg]? = some (.int o1_190) := Has.at Hh242 hin246 rfl
      have hin247 : ¬ ((1 : Int32) < 0 ∨ cl244.slots.size ≤ ((1 : Int32)).toNatClampNeg) := inb_of Sz244 ⟨by decide, by decide⟩
      have hat247 : cl244.slots[((1 : Int32)).toNatClampNeg]? = some (.int ma1) := Has.at Hh244 hin247 rfl
      have hin248 : ¬ ((2 : Int32) < 0 ∨ cl242.slots.size ≤ ((2 : Int32)).toNatClampNeg) := inb_of Sz242 ⟨by decide, by decide⟩
      have hat248 : cl242.slots[((2 : Int32)).toNatClampNeg]? = some (.int o2_190) := Has.at Hh242 hin248 rfl
      have hin249 : ¬ ((2 : Int32) < 0 ∨ cl244.slots.size ≤ ((2 : Int32)).toNatClampNeg) := inb_of Sz244 ⟨by decide, by decide⟩
      have hat249 : cl244.slots[((2 : Int32)).toNatClampNeg]? = some (.int ma2) := Has.at Hh244 hin249 rfl
      have Fc250 := (((((Va187.keep P190_0 (ninS (Ne.symm (Nat.ne_of_lt (Nat.lt_of_lt_of_le Va173.lt (Nat.le_of_eq g175.symm)))) nin0)).ext E192).other W196 (Nat.ne_of_lt (Nat.lt_of_lt_of_le (Va187.keep P190_0 (ninS (Ne.symm (Nat.ne_of_lt (Nat.lt_of_lt_of_le Va173.lt (Nat.le_of_eq g175.symm)))) nin0)).lt (Nat.le_of_eq g192.symm)))).other W200 (Nat.ne_of_lt (Nat.lt_of_lt_of_le (Va187.keep P190_0 (ninS (Ne.symm (Nat.ne_of_lt (Nat.lt_of_lt_of_le Va173.lt (Nat.le_of_eq g175.symm)))) nin0)).lt (Nat.le_of_eq g192.symm)))).other W204 (Nat.ne_of_lt (Nat.lt_of_lt_of_le (Va187.keep P190_0 (ninS (Ne.symm (Nat.ne_of_lt (Nat.lt_of_lt_of_le Va173.lt (Nat.le_of_eq g175.symm)))) nin0)).lt (Nat.le_of_eq g192.symm))))
      obtain ⟨cl251, Ar251, qk251, Sz251, Nz251, Hh251, Gg251⟩ := id Fc250
      have hin252 : ¬ ((0 : Int32) < 0 ∨ cl251.slots.size ≤ ((0 : Int32)).toNatClampNeg) := inb_of Sz251 ⟨by decide, by decide⟩
      have hat252 : cl251.slots[((0 : Int32)).toNatClampNeg]? = some (.double (FP.i2d v0)) := Has.at Hh251 hin252 rfl
      have hin253 : ¬ ((1 : Int32) < 0 ∨ cl251.slots.size ≤ ((1 : Int32)).toNatClampNeg) := inb_of Sz251 ⟨by decide, by decide⟩
      have hat253 : cl251.slots[((1 : Int32)).toNatClampNeg]? = some (.double (FP.i2d v1)) := Has.at Hh251 hin253 rfl
      have hin254 : ¬ ((2 : Int32) < 0 ∨ cl251.slots.size ≤ ((2 : Int32)).toNatClampNeg) := inb_of Sz251 ⟨by decide, by decide⟩
      have hat254 : cl251.slots[((2 : Int32)).toNatClampNeg]? = some (.double (FP.i2d v2)) := Has.at Hh251 hin254 rfl
      obtain ⟨fs, hr, hrun, hended, hW, hsame⟩ := X204.leave (v := some (.int 1)) (fun h => by rw [Bd.returns] at h; cases h)
      refine ⟨_, _, pre0 _ (pre206 _ ?_), hrun, hended, _, _, rfl, ?_, ⟨_, rfl⟩, hW, hsame.mono (by decide) (by decide)⟩
      · show own_S p e below T204 m 156 #[oI p0, oI p1, oI p2, oI p3, oI p4, oI 2, oI ma0, oI ma1, oI ma2, oD (FP.i2d v0), oV, oD (FP.i2d v1), oV, oD (FP.i2d v2), oV, oR b161, oR b175, oI orr_190, oR b192, oI 0, oU, oU, oU, oU] [(.int ma1), (.int ma0)] _
        refine XS.icmpYes X204.here hx rfl (pc0 := 156) (pc' := 461) rfl (hb hby at_156) rfl (feq (e01 : ¬ (ma0 = ma1))).2 (by decide) (by decide) ?_
        show own_S p e below T204 m 461 _ [] _
        refine XS.iload X204.here hx rfl (hb hby at_461) rfl ?_
        show own_S p e below T204 m 463 _ [(.int orr_190)] _
        refine XS.iload X204.here hx rfl (hb hby at_463) rfl ?_
        show own_S p e below T204 m 465 _ [(.int 0), (.int orr_190)] _
        refine XS.icmpNo X204.here hx rfl (hb hby at_465) rfl (teq ((hPF.2.2.2.symm.trans hE.2.2.2) : orr_190 = (0 : Int32))).2 ?_
        show own_S p e below T204 m 468 _ [] _
        refine XS.aload X204.here hx rfl (hb hby at_468) rfl rfl ?_
        show own_S p e below T204 m 470 _ [(.ref b161)] _
        refine XS.iconst X204.here hx rfl (hb hby at_470) ?_
        show own_S p e below T204 m 471 _ [(.int 0), (.ref b161)] _
        refine X204.iaload hx (j := (0 : Int32)) (v := (.int o0_190)) (by rw [e204]; exact Ar242.1) (State.isArrayOf_alike hZ.alike Ar242.2.1) Ar242.2.2 hin243 hat243 (g := (mkF m 471 #[oI p0, oI p1, oI p2, oI p3, oI p4, oI 2, oI ma0, oI ma1, oI ma2, oD (FP.i2d v0), oV, oD (FP.i2d v1), oV, oD (FP.i2d v2), oV, oR b161, oR b175, oI orr_190, oR b192, oI 0, oU, oU, oU, oU] [(.int 0), (.ref b161)])) rfl rfl (hb hby at_471) _ ?_
        show own_S p e below T204 m 472 #[oI p0, oI p1, oI p2, oI p3, oI p4, oI 2, oI ma0, oI ma1, oI ma2, oD (FP.i2d v0), oV, oD (FP.i2d v1), oV, oD (FP.i2d v2), oV, oR b161, oR b175, oI orr_190, oR b192, oI 0, oU, oU, oU, oU] [(.int o0_190)] _
        refine XS.aload X204.here hx rfl (hb hby at_472) rfl rfl ?_
        show own_S p e below T204 m 474 _ [(.ref b192), (.int o0_190)] _
        refine XS.iconst X204.here hx rfl (hb hby at_474) ?_
        show own_S p e below T204 m 475 _ [(.int 0), (.ref b192), (.int o0_190)] _
        refine X204.iaload hx (j := (0 : Int32)) (v := (.int ma0)) (by rw [e204]; exact Ar244.1) (State.isArrayOf_alike hZ.alike Ar244.2.1) Ar244.2.2 hin245 hat245 (g := (mkF m 475 #[oI p0, oI p1, oI p2, oI p3, oI p4, oI 2, oI ma0, oI ma1, oI ma2, oD (FP.i2d v0), oV, oD (FP.i2d v1), oV, oD (FP.i2d v2), oV, oR b161, oR b175, oI orr_190, oR b192, oI 0, oU, oU, oU, oU] [(.int 0), (.ref b192), (.int o0_190)])) rfl rfl (hb hby at_475) _ ?_
        show own_S p e below T204 m 476 _ [(.int ma0), (.int o0_190)] _
        refine XS.icmpNo X204.here hx rfl (hb hby at_476) rfl (teq ((hPF.1.symm.trans hE.1) : o0_190 = ma0)).2 ?_
        show own_S p e below T204 m 479 _ [] _
        refine XS.aload X204.here hx rfl (hb hby at_479) rfl rfl ?_
        show own_S p e below T204 m 481 _ [(.ref b161)] _
        refine XS.iconst X204.here hx rfl (hb hby at_481) ?_
        show own_S p e below T204 m 482 _ [(.int 1), (.ref b161)] _
        refine X204.iaload hx (j := (1 : Int32)) (v := (.int o1_190)) (by rw [e204]; exact Ar242.1) (State.isArrayOf_alike hZ.alike Ar242.2.1) Ar242.2.2 hin246 hat246 (g := (mkF m 482 #[oI p0, oI p1, oI p2, oI p3, oI p4, oI 2, oI ma0, oI ma1, oI ma2, oD (FP.i2d v0), oV, oD (FP.i2d v1), oV, oD (FP.i2d v2), oV, oR b161, oR b175, oI orr_190, oR b192, oI 0, oU, oU, oU, oU] [(.int 1), (.ref b161)])) rfl rfl (hb hby at_482) _ ?_
        show own_S p e below T204 m 483 #[oI p0, oI p1, oI p2, oI p3, oI p4, oI 2, oI ma0, oI ma1, oI ma2, oD (FP.i2d v0), oV, oD (FP.i2d v1), oV, oD (FP.i2d v2), oV, oR b161, oR b175, oI orr_190, oR b192, oI 0, oU, oU, oU, oU] [(.int o1_190)] _
        refine XS.aload X204.here hx rfl (hb hby at_483) rfl rfl ?_
        show own_S p e below T204 m 485 _ [(.ref b192), (.int o1_190)] _
        refine XS.iconst X204.here hx rfl (hb hby at_485) ?_
        show own_S p e below T204 m 486 _ [(.int 1), (.ref b192), (.int o1_190)] _
        refine X204.iaload hx (j := (1 : Int32)) (v := (.int ma1)) (by rw [e204]; exact Ar244.1) (State.isArrayOf_alike hZ.alike Ar244.2.1) Ar244.2.2 hin247 hat247 (g := (mkF m 486 #[oI p0, oI p1, oI p2, oI p3, oI p4, oI 2, oI ma0, oI ma1, oI ma2, oD (FP.i2d v0), oV, oD (FP.i2d v1), oV, oD (FP.i2d v2), oV, oR b161, oR b175, oI orr_190, oR b192, oI 0, oU, oU, oU, oU] [(.int 1), (.ref b192), (.int o1_190)])) rfl rfl (hb hby at_486) _ ?_
        show own_S p e below T204 m 487 _ [(.int ma1), (.int o1_190)] _
        refine XS.icmpNo X204.here hx rfl (hb hby at_487) rfl (teq ((hPF.2.1.symm.trans hE.2.1) : o1_190 = ma1)).2 ?_
        show own_S p e below T204 m 490 _ [] _
        refine XS.aload X204.here hx rfl (hb hby at_490) rfl rfl ?_
        show own_S p e below T204 m 492 _ [(.ref b161)] _
        refine XS.iconst X204.here hx rfl (hb hby at_492) ?_
        show own_S p e below T204 m 493 _ [(.int 2), (.ref b161)] _
        refine X204.iaload hx (j := (2 : Int32)) (v := (.int o2_190)) (by rw [e204]; exact Ar242.1) (State.isArrayOf_alike hZ.alike Ar242.2.1) Ar242.2.2 hin248 hat248 (g := (mkF m 493 #[oI p0, oI p1, oI p2, oI p3, oI p4, oI 2, oI ma0, oI ma1, oI ma2, oD (FP.i2d v0), oV, oD (FP.i2d v1), oV, oD (FP.i2d v2), oV, oR b161, oR b175, oI orr_190, oR b192, oI 0, oU, oU, oU, oU] [(.int 2), (.ref b161)])) rfl rfl (hb hby at_493) _ ?_
        show own_S p e below T204 m 494 #[oI p0, oI p1, oI p2, oI p3, oI p4, oI 2, oI ma0, oI ma1, oI ma2, oD (FP.i2d v0), oV, oD (FP.i2d v1), oV, oD (FP.i2d v2), oV, oR b161, oR b175, oI orr_190, oR b192, oI 0, oU, oU, oU, oU] [(.int o2_190)] _
        refine XS.aload X204.here hx rfl (hb hby at_494) rfl rfl ?_
        show own_S p e below T204 m 496 _ [(.ref b192), (.int o2_190)] _
        refine XS.iconst X204.here hx rfl (hb hby at_496) ?_
        show own_S p e below T204 m 497 _ [(.int 2), (.ref b192), (.int o2_190)] _
        refine X204.iaload hx (j := (2 : Int32)) (v := (.int ma2)) (by rw [e204]; exact Ar244.1) (State.isArrayOf_alike hZ.alike Ar244.2.1) Ar244.2.2 hin249 hat249 (g := (mkF m 497 #[oI p0, oI p1, oI p2, oI p3, oI p4, oI 2, oI ma0, oI ma1, oI ma2, oD (FP.i2d v0), oV, oD (FP.i2d v1), oV, oD (FP.i2d v2), oV, oR b161, oR b175, oI orr_190, oR b192, oI 0, oU, oU, oU, oU] [(.int 2), (.ref b192), (.int o2_190)])) rfl rfl (hb hby at_497) _ ?_
        show own_S p e below T204 m 498 _ [(.int ma2), (.int o2_190)] _
        refine XS.icmpNo X204.here hx rfl (hb hby at_498) rfl (teq ((hPF.2.2.1.symm.trans hE.2.2.1) : o2_190 = ma2)).2 ?_
        show own_S p e below T204 m 501 _ [] _
        refine XS.aload X204.here hx rfl (hb hby at_501) rfl rfl ?_
        show own_S p e below T204 m 503 _ [(.ref b175)] _
        refine XS.iconst X204.here hx rfl (hb hby at_503) ?_
        show own_S p e below T204 m 504 _ [(.int 0), (.ref b175)] _
        refine X204.daload hx (j := (0 : Int32)) (v := (.double (FP.i2d v0))) (by rw [e204]; exact Ar251.1) (State.isArrayOf_alike hZ.alike Ar251.2.1) Ar251.2.2 hin252 hat252 (g := (mkF m 504 #[oI p0, oI p1, oI p2, oI p3, oI p4, oI 2, oI ma0, oI ma1, oI ma2, oD (FP.i2d v0), oV, oD (FP.i2d v1), oV, oD (FP.i2d v2), oV, oR b161, oR b175, oI orr_190, oR b192, oI 0, oU, oU, oU, oU] [(.int 0), (.ref b175)])) rfl rfl (hb hby at_504) _ ?_
        show own_S p e below T204 m 505 #[oI p0, oI p1, oI p2, oI p3, oI p4, oI 2, oI ma0, oI ma1, oI ma2, oD (FP.i2d v0), oV, oD (FP.i2d v1), oV, oD (FP.i2d v2), oV, oR b161, oR b175, oI orr_190, oR b192, oI 0, oU, oU, oU, oU] [(.double (FP.i2d v0))] _
        refine XS.dload X204.here hx rfl (hb hby at_505) rfl ?_
        show own_S p e below T204 m 507 _ [(.double (FP.i2d v0)), (.double (FP.i2d v0))] _
        refine XS.dcmpS X204.here hx rfl (v := (0 : Int32)) (hb hby at_507) rfl (own_ieq (FP.Core.i2d_int v0) (FP.Core.i2d_int v0) rfl .l) ?_
        show own_S p e below T204 m 508 _ [(.int 0)] _
        refine XS.ifNo X204.here hx rfl (hb hby at_508) rfl ((if0 _ _).trans (teq (by decide : (0 : Int32) = (0 : Int32))).2) ?_
        show own_S p e below T204 m 511 _ [] _
        refine XS.aload X204.here hx rfl (hb hby at_511) rfl rfl ?_
        show own_S p e below T204 m 513 _ [(.ref b175)] _
        refine XS.iconst X204.here hx rfl (hb hby at_513) ?_
        show own_S p e below T204 m 514 _ [(.int 1), (.ref b175)] _
        refine X204.daload hx (j := (1 : Int32)) (v := (.double (FP.i2d v1))) (by rw [e204]; exact Ar251.1) (State.isArrayOf_alike hZ.alike Ar251.2.1) Ar251.2.2 hin253 hat253 (g := (mkF m 514 #[oI p0, oI p1, oI p2, oI p3, oI p4, oI 2, oI ma0, oI ma1, oI ma2, oD (FP.i2d v0), oV, oD (FP.i2d v1), oV, oD (FP.i2d v2), oV, oR b161, oR b175, oI orr_190, oR b192, oI 0, oU, oU, oU, oU] [(.int 1), (.ref b175)])) rfl rfl (hb hby at_514) _ ?_
        show own_S p e below T204 m 515 _ [(.double (FP.i2d v1))] _
        refine XS.dload X204.here hx rfl (hb hby at_515) rfl ?_
        show own_S p e below T204 m 517 #[oI p0, oI p1, oI p2, oI p3, oI p4, oI 2, oI ma0, oI ma1, oI ma2, oD (FP.i2d v0), oV, oD (FP.i2d v1), oV, oD (FP.i2d v2), oV, oR b161, oR b175, oI orr_190, oR b192, oI 0, oU, oU, oU, oU] [(.double (FP.i2d v1)), (.double (FP.i2d v1))] _
        refine XS.dcmpS X204.here hx rfl (v := (0 : Int32)) (hb hby at_517) rfl (own_ieq (FP.Core.i2d_int v1) (FP.Core.i2d_int v1) rfl .l) ?_
        show own_S p e below T204 m 518 _ [(.int 0)] _
        refine XS.ifNo X204.here hx rfl (hb hby at_518) rfl ((if0 _ _).trans (teq (by decide : (0 : Int32) = (0 : Int32))).2) ?_
        show own_S p e below T204 m 521 _ [] _
        refine XS.aload X204.here hx rfl (hb hby at_521) rfl rfl ?_
        show own_S p e below T204 m 523 _ [(.ref b175)] _
        refine XS.iconst X204.here hx rfl (hb hby at_523) ?_
        show own_S p e below T204 m 524 _ [(.int 2), (.ref b175)] _
        refine X204.daload hx (j := (2 : Int32)) (v := (.double (FP.i2d v2))) (by rw [e204]; exact Ar251.1) (State.isArrayOf_alike hZ.alike Ar251.2.1) Ar251.2.2 hin254 hat254 (g := (mkF m 524 #[oI p0, oI p1, oI p2, oI p3, oI p4, oI 2, oI ma0, oI ma1, oI ma2, oD (FP.i2d v0), oV, oD (FP.i2d v1), oV, oD (FP.i2d v2), oV, oR b161, oR b175, oI orr_190, oR b192, oI 0, oU, oU, oU, oU] [(.int 2), (.ref b175)])) rfl rfl (hb hby at_524) _ ?_
        show own_S p e below T204 m 525 _ [(.double (FP.i2d v2))] _
        refine XS.dload X204.here hx rfl (hb hby at_525) rfl ?_
        show own_S p e below T204 m 527 _ [(.double (FP.i2d v2)), (.double (FP.i2d v2))] _
        refine XS.dcmpS X204.here hx rfl (v := (0 : Int32)) (hb hby at_527) rfl (own_ieq (FP.Core.i2d_int v2) (FP.Core.i2d_int v2) rfl .l) ?_
        show own_S p e below T204 m 528 #[oI p0, oI p1, oI p2, oI p3, oI p4, oI 2, oI ma0, oI ma1, oI ma2, oD (FP.i2d v0), oV, oD (FP.i2d v1), oV, oD (FP.i2d v2), oV, oR b161, oR b175, oI orr_190, oR b192, oI 0, oU, oU, oU, oU] [(.int 0)] _
        refine XS.ifNo X204.here hx rfl (hb hby at_528) rfl ((if0 _ _).trans (teq (by decide : (0 : Int32) = (0 : Int32))).2) ?_
        show own_S p e below T204 m 531 _ [] _
        refine XS.iconst X204.here hx rfl (hb hby at_531) ?_
        show own_S p e below T204 m 532 _ [(.int 1)] _
        refine XS.goto X204.here hx rfl (pc0 := 532) (pc' := 536) rfl (hb hby at_532) (by decide) (by decide) ?_
        show own_S p e below T204 m 536 _ [(.int 1)] _
        exact retN X204 hx (t := .boolean) Bd.returns (by simp) (hb hby at_536) hr
      · show Qm0 Z p0 p1 p2 p3 p4 h0 n0 _ T204.heap _
        rw [e204]
        exact ⟨rfl, N204⟩
  · skip
    obtain ⟨ma0, hma0⟩ : ∃ zz, zz = ((p1 &&& (2147483647 : Int32)) % (3 : Int32)) := ⟨_, rfl⟩
    have ra0 : (ma0 = 0 ∨ ma0 = 1 ∨ ma0 = 2) := by rw [hma0]; exact own_rem3 p1
    obtain ⟨ma1, hma1⟩ : ∃ zz, zz = ((p2 &&& (2147483647 : Int32)) % (3 : Int32)) := ⟨_, rfl⟩
    have ra1 : (ma1 = 0 ∨ ma1 = 1 ∨ ma1 = 2) := by rw [hma1]; exact own_rem3 p2
    obtain ⟨ma2, hma2⟩ : ∃ zz, zz = ((p3 &&& (2147483647 : Int32)) % (3 : Int32)) := ⟨_, rfl⟩
    have ra2 : (ma2 = 0 ∨ ma2 = 1 ∨ ma2 = 2) := by rw [hma2]; exact own_rem3 p3
    obtain ⟨T255, h255, k255, X255, e255, E255, A255, st255⟩ := newP X0 hx hZ (own_w hw 1 rfl) e0 (g := (mkF m 73 #[oI p0, oI p1, oI p2, oI p3, oI p4, oI 3, oI ma0, oI ma1, oI ma2, oD (FP.i2d v0), oV, oD (FP.i2d v1), oV, oD (FP.i2d v2), oV, oU, oU, oU, oU, oU, oU, oU, oU, oU] [(.int 3)])) rfl (hb hby at_73) rfl (by decide) (cap := 3) (by decide) (by decide) (by decide) (by decide)
    obtain ⟨b255, g255⟩ : ∃ z, z = h0.size := ⟨_, rfl⟩
    rw [← g255] at A255 st255
    have g_b255 : n0 ≤ b255 := Nat.le_trans Z0 (Nat.le_of_eq g255.symm)
    have ZZ256 : n0 ≤ h255.size := Nat.le_trans Z0 E255.1
    have V_b255 : Arv Z h255 b255 k255 .int (3 : Int32) [(.int 0), (.int 0), (.int 0)] (.int 0) := (Arv.new A255 (by decide)).pad (pad_rep [] (.int 0) 3)
    obtain ⟨cl257, Ar257, qk257, Sz257, Nz257, Hh257, Gg257⟩ := id V_b255
    have hin258 : ¬ ((0 : Int32) < 0 ∨ cl257.slots.size ≤ ((0 : Int32)).toNatClampNeg) := inb_of Sz257 ⟨by decide, by decide⟩
    obtain ⟨T259, h259, X259, e259, W259, st259⟩ := stI X255 hx hZ e255 Ar257 (j := (0 : Int32)) hin258 (g := (mkF m 79 #[oI p0, oI p1, oI p2, oI p3, oI p4, oI 3, oI ma0, oI ma1, oI ma2, oD (FP.i2d v0), oV, oD (FP.i2d v1), oV, oD (FP.i2d v2), oV, oU, oU, oU, oU, oU, oU, oU, oU, oU] [(.int ma0), (.int 0), (.ref b255), (.ref b255)])) rfl rfl (hb hby at_79)
    have Va259 := Arv.set Ar257 qk257 Sz257 Nz257 Hh257 Gg257 rfl W259 0 rfl (Nat.le_of_ble_eq_true rfl)
    have N259 := Fr.snoc X259 N0 g_b255
    have ZZ260 : n0 ≤ h259.size := Nat.le_trans ZZ256 (Nat.le_of_eq W259.size.symm)
    obtain ⟨cl261, Ar261, qk261, Sz261, Nz261, Hh261, Gg261⟩ := id Va259
    have hin262 : ¬ ((1 : Int32) < 0 ∨ cl261.slots.size ≤ ((1 : Int32)).toNatClampNeg) := inb_of Sz261 ⟨by decide, by decide⟩
    obtain ⟨T263, h263, X263, e263, W263, st263⟩ := stI X259 hx hZ e259 Ar261 (j := (1 : Int32)) hin262 (g := (mkF m 84 #[oI p0, oI p1, oI p2, oI p3, oI p4, oI 3, oI ma0, oI ma1, oI ma2, oD (FP.i2d v0), oV, oD (FP.i2d v1), oV, oD (FP.i2d v2), oV, oU, oU, oU, oU, oU, oU, oU, oU, oU] [(.int ma1), (.int 1), (.ref b255), (.ref b255)])) rfl rfl (hb hby at_84)
    have Va263 := Arv.set Ar261 qk261 Sz261 Nz261 Hh261 Gg261 rfl W263 1 rfl (Nat.le_of_ble_eq_true rfl)
    have N263 := Fr.snoc X263 N259 g_b255
    have ZZ264 : n0 ≤ h263.size := Nat.le_trans ZZ260 (Nat.le_of_eq W263.size.symm)
    obtain ⟨cl265, Ar265, qk265, Sz265, Nz265, Hh265, Gg265⟩ := id Va263
    have hin266 : ¬ ((2 : Int32) < 0 ∨ cl265.slots.size ≤ ((2 : Int32)).toNatClampNeg) := inb_of Sz265 ⟨by decide, by decide⟩
    obtain ⟨T267, h267, X267, e267, W267, st267⟩ := stI X263 hx hZ e263 Ar265 (j := (2 : Int32)) hin266 (g := (mkF m 89 #[oI p0, oI p1, oI p2, oI p3, oI p4, oI 3, oI ma0, oI ma1, oI ma2, oD (FP.i2d v0), oV, oD (FP.i2d v1), oV, oD (FP.i2d v2), oV, oU, oU, oU, oU, oU, oU, oU, oU, oU] [(.int ma2), (.int 2), (.ref b255), (.ref b255)])) rfl rfl (hb hby at_89)
    have Va267 := Arv.set Ar265 qk265 Sz265 Nz265 Hh265 Gg265 rfl W267 2 rfl (Nat.le_of_ble_eq_true rfl)
    have N267 := Fr.snoc X267 N263 g_b255
    have ZZ268 : n0 ≤ h267.size := Nat.le_trans ZZ264 (Nat.le_of_eq W267.size.symm)
    obtain ⟨T269, h269, k269, X269, e269, E269, A269, st269⟩ := newP X267 hx hZ (own_w hw 2 rfl) e267 (g := (mkF m 93 #[oI p0, oI p1, oI p2, oI p3, oI p4, oI 3, oI ma0, oI ma1, oI ma2, oD (FP.i2d v0), oV, oD (FP.i2d v1), oV, oD (FP.i2d v2), oV, oR b255, oU, oU, oU, oU, oU, oU, oU, oU] [(.int 3)])) rfl (hb hby at_93) rfl (by decide) (cap := 3) (by decide) (by decide) (by decide) (by decide)
    obtain ⟨b269, g269⟩ : ∃ z, z = h267.size := ⟨_, rfl⟩
    rw [← g269] at A269 st269
    have g_b269 : n0 ≤ b269 := Nat.le_trans ZZ268 (Nat.le_of_eq g269.symm)
    have ZZ270 : n0 ≤ h269.size := Nat.le_trans ZZ268 E269.1
    have V_b269 : Arv Z h269 b269 k269 .double (3 : Int32) [(.double 0), (.double 0), (.double 0)] (.double 0) := (Arv.new A269 (by decide)).pad (pad_rep [] (.double 0) 3)
    obtain ⟨cl271, Ar271, qk271, Sz271, Nz271, Hh271, Gg271⟩ := id V_b269
    have hin272 : ¬ ((0 : Int32) < 0 ∨ cl271.slots.size ≤ ((0 : Int32)).toNatClampNeg) := inb_of Sz271 ⟨by decide, by decide⟩
    obtain ⟨T273, h273, X273, e273, W273, st273⟩ := stD X269 hx hZ e269 Ar271 (j := (0 : Int32)) hin272 (g := (mkF m 99 #[oI p0, oI p1, oI p2, oI p3, oI p4, oI 3, oI ma0, oI ma1, oI ma2, oD (FP.i2d v0), oV, oD (FP.i2d v1), oV, oD (FP.i2d v2), oV, oR b255, oU, oU, oU, oU, oU, oU, oU, oU] [(.double (FP.i2d v0)), (.int 0), (.ref b269), (.ref b269)])) rfl rfl (hb hby at_99)
    have Va273 := Arv.set Ar271 qk271 Sz271 Nz271 Hh271 Gg271 rfl W273 0 rfl (Nat.le_of_ble_eq_true rfl)
    have N273 := Fr.snoc X273 N267 g_b269
    have ZZ274 : n0 ≤ h273.size := Nat.le_trans ZZ270 (Nat.le_of_eq W273.size.symm)
    obtain ⟨cl275, Ar275, qk275, Sz275, Nz275, Hh275, Gg275⟩ := id Va273
    have hin276 : ¬ ((1 : Int32) < 0 ∨ cl275.slots.size ≤ ((1 : Int32)).toNatClampNeg) := inb_of Sz275 ⟨by decide, by decide⟩
    obtain ⟨T277, h277, X277, e277, W277, st277⟩ := stD X273 hx hZ e273 Ar275 (j := (1 : Int32)) hin276 (g := (mkF m 104 #[oI p0, oI p1, oI p2, oI p3, oI p4, oI 3, oI ma0, oI ma1, oI ma2, oD (FP.i2d v0), oV, oD (FP.i2d v1), oV, oD (FP.i2d v2), oV, oR b255, oU, oU, oU, oU, oU, oU, oU, oU] [(.double (FP.i2d v1)), (.int 1), (.ref b269), (.ref b269)])) rfl rfl (hb hby at_104)
    have Va277 := Arv.set Ar275 qk275 Sz275 Nz275 Hh275 Gg275 rfl W277 1 rfl (Nat.le_of_ble_eq_true rfl)
    have N277 := Fr.snoc X277 N273 g_b269
    have ZZ278 : n0 ≤ h277.size := Nat.le_trans ZZ274 (Nat.le_of_eq W277.size.symm)
    obtain ⟨cl279, Ar279, qk279, Sz279, Nz279, Hh279, Gg279⟩ := id Va277
    have hin280 : ¬ ((2 : Int32) < 0 ∨ cl279.slots.size ≤ ((2 : Int32)).toNatClampNeg) := inb_of Sz279 ⟨by decide, by decide⟩
    obtain ⟨T281, h281, X281, e281, W281, st281⟩ := stD X277 hx hZ e277 Ar279 (j := (2 : Int32)) hin280 (g := (mkF m 109 #[oI p0, oI p1, oI p2, oI p3, oI p4, oI 3, oI ma0, oI ma1, oI ma2, oD (FP.i2d v0), oV, oD (FP.i2d v1), oV, oD (FP.i2d v2), oV, oR b255, oU, oU, oU, oU, oU, oU, oU, oU] [(.double (FP.i2d v2)), (.int 2), (.ref b269), (.ref b269)])) rfl rfl (hb hby at_109)
    have Va281 := Arv.set Ar279 qk279 Sz279 Nz279 Hh279 Gg279 rfl W281 2 rfl (Nat.le_of_ble_eq_true rfl)
    have N281 := Fr.snoc X281 N277 g_b269
    have ZZ282 : n0 ≤ h281.size := Nat.le_trans ZZ278 (Nat.le_of_eq W281.size.symm)
    have Fc283 := ((((Va267.ext E269).other W273 (Nat.ne_of_lt (Nat.lt_of_lt_of_le Va267.lt (Nat.le_of_eq g269.symm)))).other W277 (Nat.ne_of_lt (Nat.lt_of_lt_of_le Va267.lt (Nat.le_of_eq g269.symm)))).other W281 (Nat.ne_of_lt (Nat.lt_of_lt_of_le Va267.lt (Nat.le_of_eq g269.symm))))
    obtain ⟨_, _, ⟨T284, L284, k284, n284⟩, -, X284, ⟨Lc284, hQ284, l284, y284, z284⟩, st284⟩ := Jvm.LawKit.callS X281 hx (y := (⟨"com/example/metasearch/metasearch/EmptyClusters", "fill", "([I[DI)Z"⟩ : MethodName)) hown (mvT hZ (own_w hw 3 rfl)) (mvT hZ (own_w hw 4 rfl)) (mvT hZ (own_w hw 5 rfl)) (mvT hZ (own_w hw 6 rfl)) (by decide) (backOf (W := 0) (rmf3 l Z a0 hw [] b255 b269 k255 k269 ma0 ma1 ma2 (FP.i2d v0) (FP.i2d v1) (FP.i2d v2) x y z h281 n0 ZZ282 Fc283 Va281 g_b255 (Ne.symm (Nat.ne_of_lt (Nat.lt_of_lt_of_le Va267.lt (Nat.le_of_eq g269.symm)))) ra0 ra1 ra2 lx ly lz) hZ (own_w hw 6 rfl) (own_w hw 5 rfl) (by decide) (by decide)) (g := (mkF m 118 #[oI p0, oI p1, oI p2, oI p3, oI p4, oI 3, oI ma0, oI ma1, oI ma2, oD (FP.i2d v0), oV, oD (FP.i2d v1), oV, oD (FP.i2d v2), oV, oR b255, oR b269, oU, oU, oU, oU, oU, oU, oU] [(.int 3), (.ref b269), (.ref b255)])) rfl (by rw [hml]; rfl) (argsL := [(.ref b255), (.ref b269), (.int 3)]) (rest := []) (lenOf pd0 rfl) rfl (by show 2 * 0 + _ ≤ _; exact Nat.le_of_eq rfl) (hb hby at_118) (fun _ _ => ⟨rfl, e281, (by decide : 2 + 1 ≤ _), (by decide : 6 + 3 ≤ _)⟩)
    dsimp only [Pt.U, Pt.locs, Pt.cells, Pt.slots] at X284 l284 y284 z284 st284 hQ284
    subst l284 y284 z284
    obtain ⟨o0_284, o1_284, o2_284, orr_284, rfl, Nq284, P284_0, P284_1, hPF⟩ := hQ284
    have N284 := Fr.app N281 Nq284
    have ZZ285 : n0 ≤ T284.heap.size := Nat.le_trans ZZ282 P284_0.1
    obtain ⟨T286, h286, k286, X286, e286, E286, A286, st286⟩ := newP X284 hx hZ (own_w hw 1 rfl) rfl (g := (mkF m 124 #[oI p0, oI p1, oI p2, oI p3, oI p4, oI 3, oI ma0, oI ma1, oI ma2, oD (FP.i2d v0), oV, oD (FP.i2d v1), oV, oD (FP.i2d v2), oV, oR b255, oR b269, oI orr_284, oU, oU, oU, oU, oU, oU] [(.int 3)])) rfl (hb hby at_124) rfl (by decide) (cap := 3) (by decide) (by decide) (by decide) (by decide)
    obtain ⟨b286, g286⟩ : ∃ z, z = T284.heap.size := ⟨_, rfl⟩
    rw [← g286] at A286 st286
    have g_b286 : n0 ≤ b286 := Nat.le_trans ZZ285 (Nat.le_of_eq g286.symm)
    have ZZ287 : n0 ≤ h286.size := Nat.le_trans ZZ285 E286.1
    have V_b286 : Arv Z h286 b286 k286 .int (3 : Int32) [(.int 0), (.int 0), (.int 0)] (.int 0) := (Arv.new A286 (by decide)).pad (pad_rep [] (.int 0) 3)
    obtain ⟨cl288, Ar288, qk288, Sz288, Nz288, Hh288, Gg288⟩ := id V_b286
    have hin289 : ¬ ((0 : Int32) < 0 ∨ cl288.slots.size ≤ ((0 : Int32)).toNatClampNeg) := inb_of Sz288 ⟨by decide, by decide⟩
    obtain ⟨T290, h290, X290, e290, W290, st290⟩ := stI X286 hx hZ e286 Ar288 (j := (0 : Int32)) hin289 (g := (mkF m 130 #[oI p0, oI p1, oI p2, oI p3, oI p4, oI 3, oI ma0, oI ma1, oI ma2, oD (FP.i2d v0), oV, oD (FP.i2d v1), oV, oD (FP.i2d v2), oV, oR b255, oR b269, oI orr_284, oU, oU, oU, oU, oU, oU] [(.int ma0), (.int 0), (.ref b286), (.ref b286)])) rfl rfl (hb hby at_130)
    have Va290 := Arv.set Ar288 qk288 Sz288 Nz288 Hh288 Gg288 rfl W290 0 rfl (Nat.le_of_ble_eq_true rfl)
    have N290 := Fr.snoc X290 N284 g_b286
    have ZZ291 : n0 ≤ h290.size := Nat.le_trans ZZ287 (Nat.le_of_eq W290.size.symm)
    obtain ⟨cl292, Ar292, qk292, Sz292, Nz292, Hh292, Gg292⟩ := id Va290
    have hin293 : ¬ ((1 : Int32) < 0 ∨ cl292.slots.size ≤ ((1 : Int32)).toNatClampNeg) := inb_of Sz292 ⟨by decide, by decide⟩
    obtain ⟨T294, h294, X294, e294, W294, st294⟩ := stI X290 hx hZ e290 Ar292 (j := (1 : Int32)) hin293 (g := (mkF m 135 #[oI p0, oI p1, oI p2, oI p3, oI p4, oI 3, oI ma0, oI ma1, oI ma2, oD (FP.i2d v0), oV, oD (FP.i2d v1), oV, oD (FP.i2d v2), oV, oR b255, oR b269, oI orr_284, oU, oU, oU, oU, oU, oU] [(.int ma1), (.int 1), (.ref b286), (.ref b286)])) rfl rfl (hb hby at_135)
    have Va294 := Arv.set Ar292 qk292 Sz292 Nz292 Hh292 Gg292 rfl W294 1 rfl (Nat.le_of_ble_eq_true rfl)
    have N294 := Fr.snoc X294 N290 g_b286
    have ZZ295 : n0 ≤ h294.size := Nat.le_trans ZZ291 (Nat.le_of_eq W294.size.symm)
    obtain ⟨cl296, Ar296, qk296, Sz296, Nz296, Hh296, Gg296⟩ := id Va294
    have hin297 : ¬ ((2 : Int32) < 0 ∨ cl296.slots.size ≤ ((2 : Int32)).toNatClampNeg) := inb_of Sz296 ⟨by decide, by decide⟩
    obtain ⟨T298, h298, X298, e298, W298, st298⟩ := stI X294 hx hZ e294 Ar296 (j := (2 : Int32)) hin297 (g := (mkF m 140 #[oI p0, oI p1, oI p2, oI p3, oI p4, oI 3, oI ma0, oI ma1, oI ma2, oD (FP.i2d v0), oV, oD (FP.i2d v1), oV, oD (FP.i2d v2), oV, oR b255, oR b269, oI orr_284, oU, oU, oU, oU, oU, oU] [(.int ma2), (.int 2), (.ref b286), (.ref b286)])) rfl rfl (hb hby at_140)
    have Va298 := Arv.set Ar296 qk296 Sz296 Nz296 Hh296 Gg296 rfl W298 2 rfl (Nat.le_of_ble_eq_true rfl)
    have N298 := Fr.snoc X298 N294 g_b286
    have ZZ299 : n0 ≤ h298.size := Nat.le_trans ZZ295 (Nat.le_of_eq W298.size.symm)
    have pre300 : ∀ t, Steps p.tables e below (T298.setTop (mkF m 205 #[oI p0, oI p1, oI p2, oI p3, oI p4, oI 3, oI ma0, oI ma1, oI ma2, oD (FP.i2d v0), oV, oD (FP.i2d v1), oV, oD (FP.i2d v2), oV, oR b255, oR b269, oI orr_284, oR b286, oI 0, oU, oU, oU, oU] [(.int ma1), (.int ma0)])) t → Steps p.tables e below (s₁.setTop (mkF m 0 #[oI p0, oI p1, oI p2, oI p3, oI p4, oU, oU, oU, oU, oU, oU, oU, oU, oU, oU, oU, oU, oU, oU, oU, oU, oU, oU, oU] [])) t := by
      intro t kt
      refine pre101 _ ?_
      show own_S p e below s₁ m 8 #[oI p0, oI p1, oI p2, oI p3, oI p4, oU, oU, oU, oU, oU, oU, oU, oU, oU, oU, oU, oU, oU, oU, oU, oU, oU, oU, oU] [(.int ((1 : Int32) + ((p0 &&& (2147483647 : Int32)) % (3 : Int32))))] _
      refine reI (hk : ((1 : Int32) + ((p0 &&& (2147483647 : Int32)) % (3 : Int32))) = (3 : Int32)) ?_
      show own_S p e below s₁ m 8 _ [(.int 3)] _
      refine XS.istore X0.here hx rfl (hb hby at_8) rfl (l' := #[oI p0, oI p1, oI p2, oI p3, oI p4, oI 3, oU, oU, oU, oU, oU, oU, oU, oU, oU, oU, oU, oU, oU, oU, oU, oU, oU, oU]) rfl ?_
      show own_S p e below s₁ m 10 #[oI p0, oI p1, oI p2, oI p3, oI p4, oI 3, oU, oU, oU, oU, oU, oU, oU, oU, oU, oU, oU, oU, oU, oU, oU, oU, oU, oU] [] _
      refine XS.iloadN X0.here hx rfl (hb hby at_10) rfl ?_
      show own_S p e below s₁ m 11 _ [(.int p1)] _
      refine X0.ldcInt hx hown (mvT hZ (own_w hw 0 rfl)) (g := (mkF m 11 #[oI p0, oI p1, oI p2, oI p3, oI p4, oI 3, oU, oU, oU, oU, oU, oU, oU, oU, oU, oU, oU, oU, oU, oU, oU, oU, oU, oU] [(.int p1)])) rfl (hb hby at_11) _ ?_
      show own_S p e below s₁ m 13 _ [(.int 2147483647), (.int p1)] _
      refine XS.iand X0.here hx rfl (hb hby at_13) rfl ?_
      show own_S p e below s₁ m 14 _ [(.int (p1 &&& (2147483647 : Int32)))] _
      refine XS.iload X0.here hx rfl (hb hby at_14) rfl ?_
      show own_S p e below s₁ m 16 _ [(.int 3), (.int (p1 &&& (2147483647 : Int32)))] _
      refine iremM (g := (mkF m 16 #[oI p0, oI p1, oI p2, oI p3, oI p4, oI 3, oU, oU, oU, oU, oU, oU, oU, oU, oU, oU, oU, oU, oU, oU, oU, oU, oU, oU] [(.int 3), (.int (p1 &&& (2147483647 : Int32)))])) X0 hx rfl (hb hby at_16) rfl (by decide) ?_
      show own_S p e below s₁ m 17 _ [(.int ((p1 &&& (2147483647 : Int32)) % (3 : Int32)))] _
      refine reI (hma0.symm : ((p1 &&& (2147483647 : Int32)) % (3 : Int32)) = ma0) ?_
      show own_S p e below s₁ m 17 _ [(.int ma0)] _
      refine XS.istore X0.here hx rfl (hb hby at_17) rfl (l' := #[oI p0, oI p1, oI p2, oI p3, oI p4, oI 3, oI ma0, oU, oU, oU, oU, oU, oU, oU, oU, oU, oU, oU, oU, oU, oU, oU, oU, oU]) rfl ?_
      show own_S p e below s₁ m 19 #[oI p0, oI p1, oI p2, oI p3, oI p4, oI 3, oI ma0, oU, oU, oU, oU, oU, oU, oU, oU, oU, oU, oU, oU, oU, oU, oU, oU, oU] [] _
      refine XS.iloadN X0.here hx rfl (hb hby at_19) rfl ?_
      show own_S p e below s₁ m 20 _ [(.int p2)] _
      refine X0.ldcInt hx hown (mvT hZ (own_w hw 0 rfl)) (g := (mkF m 20 #[oI p0, oI p1, oI p2, oI p3, oI p4, oI 3, oI ma0, oU, oU, oU, oU, oU, oU, oU, oU, oU, oU, oU, oU, oU, oU, oU, oU, oU] [(.int p2)])) rfl (hb hby at_20) _ ?_
      show own_S p e below s₁ m 22 _ [(.int 2147483647), (.int p2)] _
      refine XS.iand X0.here hx rfl (hb hby at_22) rfl ?_
      show own_S p e below s₁ m 23 _ [(.int (p2 &&& (2147483647 : Int32)))] _
      refine XS.iload X0.here hx rfl (hb hby at_23) rfl ?_
      show own_S p e below s₁ m 25 _ [(.int 3), (.int (p2 &&& (2147483647 : Int32)))] _
      refine iremM (g := (mkF m 25 #[oI p0, oI p1, oI p2, oI p3, oI p4, oI 3, oI ma0, oU, oU, oU, oU, oU, oU, oU, oU, oU, oU, oU, oU, oU, oU, oU, oU, oU] [(.int 3), (.int (p2 &&& (2147483647 : Int32)))])) X0 hx rfl (hb hby at_25) rfl (by decide) ?_
      show own_S p e below s₁ m 26 _ [(.int ((p2 &&& (2147483647 : Int32)) % (3 : Int32)))] _
      refine reI (hma1.symm : ((p2 &&& (2147483647 : Int32)) % (3 : Int32)) = ma1) ?_
      show own_S p e below s₁ m 26 _ [(.int ma1)] _
      refine XS.istore X0.here hx rfl (hb hby at_26) rfl (l' := #[oI p0, oI p1, oI p2, oI p3, oI p4, oI 3, oI ma0, oI ma1, oU, oU, oU, oU, oU, oU, oU, oU, oU, oU, oU, oU, oU, oU, oU, oU]) rfl ?_
      show own_S p e below s₁ m 28 #[oI p0, oI p1, oI p2, oI p3, oI p4, oI 3, oI ma0, oI ma1, oU, oU, oU, oU, oU, oU, oU, oU, oU, oU, oU, oU, oU, oU, oU, oU] [] _
      refine XS.iloadN X0.here hx rfl (hb hby at_28) rfl ?_
      show own_S p e below s₁ m 29 _ [(.int p3)] _
      refine X0.ldcInt hx hown (mvT hZ (own_w hw 0 rfl)) (g := (mkF m 29 #[oI p0, oI p1, oI p2, oI p3, oI p4, oI 3, oI ma0, oI ma1, oU, oU, oU, oU, oU, oU, oU, oU, oU, oU, oU, oU, oU, oU, oU, oU] [(.int p3)])) rfl (hb hby at_29) _ ?_
      show own_S p e below s₁ m 31 _ [(.int 2147483647), (.int p3)] _
      refine XS.iand X0.here hx rfl (hb hby at_31) rfl ?_
      show own_S p e below s₁ m 32 _ [(.int (p3 &&& (2147483647 : Int32)))] _
      refine XS.iload X0.here hx rfl (hb hby at_32) rfl ?_
      show own_S p e below s₁ m 34 _ [(.int 3), (.int (p3 &&& (2147483647 : Int32)))] _
      refine iremM (g := (mkF m 34 #[oI p0, oI p1, oI p2, oI p3, oI p4, oI 3, oI ma0, oI ma1, oU, oU, oU, oU, oU, oU, oU, oU, oU, oU, oU, oU, oU, oU, oU, oU] [(.int 3), (.int (p3 &&& (2147483647 : Int32)))])) X0 hx rfl (hb hby at_34) rfl (by decide) ?_
      show own_S p e below s₁ m 35 _ [(.int ((p3 &&& (2147483647 : Int32)) % (3 : Int32)))] _
      refine reI (hma2.symm : ((p3 &&& (2147483647 : Int32)) % (3 : Int32)) = ma2) ?_
      show own_S p e below s₁ m 35 _ [(.int ma2)] _
      refine XS.istore X0.here hx rfl (hb hby at_35) rfl (l' := #[oI p0, oI p1, oI p2, oI p3, oI p4, oI 3, oI ma0, oI ma1, oI ma2, oU, oU, oU, oU, oU, oU, oU, oU, oU, oU, oU, oU, oU, oU, oU]) rfl ?_
      show own_S p e below s₁ m 37 #[oI p0, oI p1, oI p2, oI p3, oI p4, oI 3, oI ma0, oI ma1, oI ma2, oU, oU, oU, oU, oU, oU, oU, oU, oU, oU, oU, oU, oU, oU, oU] [] _
      refine XS.iload X0.here hx rfl (hb hby at_37) rfl ?_
      show own_S p e below s₁ m 39 _ [(.int p4)] _
      refine XS.bipush X0.here hx rfl (hb hby at_39) ?_
      show own_S p e below s₁ m 41 _ [(.int 7), (.int p4)] _
      refine XS.iand X0.here hx rfl (hb hby at_41) rfl ?_
      show own_S p e below s₁ m 42 _ [(.int (p4 &&& (7 : Int32)))] _
      refine XS.iconst X0.here hx rfl (hb hby at_42) ?_
      show own_S p e below s₁ m 43 _ [(.int 3), (.int (p4 &&& (7 : Int32)))] _
      refine XS.isub X0.here hx rfl (hb hby at_43) rfl ?_
      show own_S p e below s₁ m 44 _ [(.int ((p4 &&& (7 : Int32)) - (3 : Int32)))] _
      refine reI (hv0.symm : ((p4 &&& (7 : Int32)) - (3 : Int32)) = v0) ?_
      show own_S p e below s₁ m 44 _ [(.int v0)] _
      refine XS.i2dS X0.here hx rfl (v := (FP.i2d v0)) (hb hby at_44) rfl rfl ?_
      show own_S p e below s₁ m 45 #[oI p0, oI p1, oI p2, oI p3, oI p4, oI 3, oI ma0, oI ma1, oI ma2, oU, oU, oU, oU, oU, oU, oU, oU, oU, oU, oU, oU, oU, oU, oU] [(.double (FP.i2d v0))] _
      refine XS.dstore X0.here hx rfl (hb hby at_45) rfl (l' := #[oI p0, oI p1, oI p2, oI p3, oI p4, oI 3, oI ma0, oI ma1, oI ma2, oD (FP.i2d v0), oV, oU, oU, oU, oU, oU, oU, oU, oU, oU, oU, oU, oU, oU]) rfl ?_
      show own_S p e below s₁ m 47 #[oI p0, oI p1, oI p2, oI p3, oI p4, oI 3, oI ma0, oI ma1, oI ma2, oD (FP.i2d v0), oV, oU, oU, oU, oU, oU, oU, oU, oU, oU, oU, oU, oU, oU] [] _
      refine XS.iload X0.here hx rfl (hb hby at_47) rfl ?_
      show own_S p e below s₁ m 49 _ [(.int p4)] _
      refine XS.iconst X0.here hx rfl (hb hby at_49) ?_
      show own_S p e below s₁ m 50 _ [(.int 3), (.int p4)] _
      refine XS.iushr X0.here hx rfl (hb hby at_50) rfl ?_
      show own_S p e below s₁ m 51 _ [(.int ((p4.toUInt32 >>> ((3 : Int32) &&& 31).toUInt32).toInt32))] _
      refine XS.bipush X0.here hx rfl (hb hby at_51) ?_
      show own_S p e below s₁ m 53 _ [(.int 7), (.int ((p4.toUInt32 >>> ((3 : Int32) &&& 31).toUInt32).toInt32))] _
      refine XS.iand X0.here hx rfl (hb hby at_53) rfl ?_
      show own_S p e below s₁ m 54 _ [(.int (((p4.toUInt32 >>> ((3 : Int32) &&& 31).toUInt32).toInt32) &&& (7 : Int32)))] _
      refine XS.iconst X0.here hx rfl (hb hby at_54) ?_
      show own_S p e below s₁ m 55 _ [(.int 3), (.int (((p4.toUInt32 >>> ((3 : Int32) &&& 31).toUInt32).toInt32) &&& (7 : Int32)))] _
      refine XS.isub X0.here hx rfl (hb hby at_55) rfl ?_
      show own_S p e below s₁ m 56 #[oI p0, oI p1, oI p2, oI p3, oI p4, oI 3, oI ma0, oI ma1, oI ma2, oD (FP.i2d v0), oV, oU, oU, oU, oU, oU, oU, oU, oU, oU, oU, oU, oU, oU] [(.int ((((p4.toUInt32 >>> ((3 : Int32) &&& 31).toUInt32).toInt32) &&& (7 : Int32)) - (3 : Int32)))] _
      refine reI (hv1.symm : ((((p4.toUInt32 >>> ((3 : Int32) &&& 31).toUInt32).toInt32) &&& (7 : Int32)) - (3 : Int32)) = v1) ?_
      show own_S p e below s₁ m 56 _ [(.int v1)] _
      refine XS.i2dS X0.here hx rfl (v := (FP.i2d v1)) (hb hby at_56) rfl rfl ?_
      show own_S p e below s₁ m 57 _ [(.double (FP.i2d v1))] _
      refine XS.dstore X0.here hx rfl (hb hby at_57) rfl (l' := #[oI p0, oI p1, oI p2, oI p3, oI p4, oI 3, oI ma0, oI ma1, oI ma2, oD (FP.i2d v0), oV, oD (FP.i2d v1), oV, oU, oU, oU, oU, oU, oU, oU, oU, oU, oU, oU]) rfl ?_
      show own_S p e below s₁ m 59 #[oI p0, oI p1, oI p2, oI p3, oI p4, oI 3, oI ma0, oI ma1, oI ma2, oD (FP.i2d v0), oV, oD (FP.i2d v1), oV, oU, oU, oU, oU, oU, oU, oU, oU, oU, oU, oU] [] _
      refine XS.iload X0.here hx rfl (hb hby at_59) rfl ?_
      show own_S p e below s₁ m 61 _ [(.int p4)] _
      refine XS.bipush X0.here hx rfl (hb hby at_61) ?_
      show own_S p e below s₁ m 63 _ [(.int 6), (.int p4)] _
      refine XS.iushr X0.here hx rfl (hb hby at_63) rfl ?_
      show own_S p e below s₁ m 64 _ [(.int ((p4.toUInt32 >>> ((6 : Int32) &&& 31).toUInt32).toInt32))] _
      refine XS.bipush X0.here hx rfl (hb hby at_64) ?_
      show own_S p e below s₁ m 66 _ [(.int 7), (.int ((p4.toUInt32 >>> ((6 : Int32) &&& 31).toUInt32).toInt32))] _
      refine XS.iand X0.here hx rfl (hb hby at_66) rfl ?_
      show own_S p e below s₁ m 67 _ [(.int (((p4.toUInt32 >>> ((6 : Int32) &&& 31).toUInt32).toInt32) &&& (7 : Int32)))] _
      refine XS.iconst X0.here hx rfl (hb hby at_67) ?_
      show own_S p e below s₁ m 68 _ [(.int 3), (.int (((p4.toUInt32 >>> ((6 : Int32) &&& 31).toUInt32).toInt32) &&& (7 : Int32)))] _
      refine XS.isub X0.here hx rfl (hb hby at_68) rfl ?_
      show own_S p e below s₁ m 69 #[oI p0, oI p1, oI p2, oI p3, oI p4, oI 3, oI ma0, oI ma1, oI ma2, oD (FP.i2d v0), oV, oD (FP.i2d v1), oV, oU, oU, oU, oU, oU, oU, oU, oU, oU, oU, oU] [(.int ((((p4.toUInt32 >>> ((6 : Int32) &&& 31).toUInt32).toInt32) &&& (7 : Int32)) - (3 : Int32)))] _
      refine reI (hv2.symm : ((((p4.toUInt32 >>> ((6 : Int32) &&& 31).toUInt32).toInt32) &&& (7 : Int32)) - (3 : Int32)) = v2) ?_
      show own_S p e below s₁ m 69 _ [(.int v2)] _
      refine XS.i2dS X0.here hx rfl (v := (FP.i2d v2)) (hb hby at_69) rfl rfl ?_
      show own_S p e below s₁ m 70 _ [(.double (FP.i2d v2))] _
      refine XS.dstore X0.here hx rfl (hb hby at_70) rfl (l' := #[oI p0, oI p1, oI p2, oI p3, oI p4, oI 3, oI ma0, oI ma1, oI ma2, oD (FP.i2d v0), oV, oD (FP.i2d v1), oV, oD (FP.i2d v2), oV, oU, oU, oU, oU, oU, oU, oU, oU, oU]) rfl ?_
      show own_S p e below s₁ m 72 #[oI p0, oI p1, oI p2, oI p3, oI p4, oI 3, oI ma0, oI ma1, oI ma2, oD (FP.i2d v0), oV, oD (FP.i2d v1), oV, oD (FP.i2d v2), oV, oU, oU, oU, oU, oU, oU, oU, oU, oU] [] _
      refine XS.iconst X0.here hx rfl (hb hby at_72) ?_
      show own_S p e below s₁ m 73 _ [(.int 3)] _
      refine st255 _ ?_
      show own_S p e below T255 m 75 _ [(.ref b255)] _
      refine XS.dup X255.here hx rfl (hb hby at_75) rfl rfl ?_
      show own_S p e below T255 m 76 _ [(.ref b255), (.ref b255)] _
      refine XS.iconst X255.here hx rfl (hb hby at_76) ?_
      show own_S p e below T255 m 77 _ [(.int 0), (.ref b255), (.ref b255)] _
      refine XS.iload X255.here hx rfl (hb hby at_77) rfl ?_
      show own_S p e below T255 m 79 _ [(.int ma0), (.int 0), (.ref b255), (.ref b255)] _
      refine st259 _ ?_
      show own_S p e below T259 m 80 _ [(.ref b255)] _
      refine XS.dup X259.here hx rfl (hb hby at_80) rfl rfl ?_
      show own_S p e below T259 m 81 #[oI p0, oI p1, oI p2, oI p3, oI p4, oI 3, oI ma0, oI ma1, oI ma2, oD (FP.i2d v0), oV, oD (FP.i2d v1), oV, oD (FP.i2d v2), oV, oU, oU, oU, oU, oU, oU, oU, oU, oU] [(.ref b255), (.ref b255)] _
      refine XS.iconst X259.here hx rfl (hb hby at_81) ?_
      show own_S p e below T259 m 82 _ [(.int 1), (.ref b255), (.ref b255)] _
      refine XS.iload X259.here hx rfl (hb hby at_82) rfl ?_
      show own_S p e below T259 m 84 _ [(.int ma1), (.int 1), (.ref b255), (.ref b255)] _
      refine st263 _ ?_
      show own_S p e below T263 m 85 _ [(.ref b255)] _
      refine XS.dup X263.here hx rfl (hb hby at_85) rfl rfl ?_
      show own_S p e below T263 m 86 _ [(.ref b255), (.ref b255)] _
      refine XS.iconst X263.here hx rfl (hb hby at_86) ?_
      show own_S p e below T263 m 87 _ [(.int 2), (.ref b255), (.ref b255)] _
      refine XS.iload X263.here hx rfl (hb hby at_87) rfl ?_
      show own_S p e below T263 m 89 _ [(.int ma2), (.int 2), (.ref b255), (.ref b255)] _
      refine st267 _ ?_
      show own_S p e below T267 m 90 #[oI p0, oI p1, oI p2, oI p3, oI p4, oI 3, oI ma0, oI ma1, oI ma2, oD (FP.i2d v0), oV, oD (FP.i2d v1), oV, oD (FP.i2d v2), oV, oU, oU, oU, oU, oU, oU, oU, oU, oU] [(.ref b255)] _
      refine XS.astore X267.here hx rfl (hb hby at_90) rfl rfl (l' := #[oI p0, oI p1, oI p2, oI p3, oI p4, oI 3, oI ma0, oI ma1, oI ma2, oD (FP.i2d v0), oV, oD (FP.i2d v1), oV, oD (FP.i2d v2), oV, oR b255, oU, oU, oU, oU, oU, oU, oU, oU]) rfl ?_
      show own_S p e below T267 m 92 #[oI p0, oI p1, oI p2, oI p3, oI p4, oI 3, oI ma0, oI ma1, oI ma2, oD (FP.i2d v0), oV, oD (FP.i2d v1), oV, oD (FP.i2d v2), oV, oR b255, oU, oU, oU, oU, oU, oU, oU, oU] [] _
      refine XS.iconst X267.here hx rfl (hb hby at_92) ?_
      show own_S p e below T267 m 93 _ [(.int 3)] _
      refine st269 _ ?_
      show own_S p e below T269 m 95 _ [(.ref b269)] _
      refine XS.dup X269.here hx rfl (hb hby at_95) rfl rfl ?_
      show own_S p e below T269 m 96 _ [(.ref b269), (.ref b269)] _
      refine XS.iconst X269.here hx rfl (hb hby at_96) ?_
      show own_S p e below T269 m 97 _ [(.int 0), (.ref b269), (.ref b269)] _
      refine XS.dload X269.here hx rfl (hb hby at_97) rfl ?_
      show own_S p e below T269 m 99 _ [(.double (FP.i2d v0)), (.int 0), (.ref b269), (.ref b269)] _
      refine st273 _ ?_
      show own_S p e below T273 m 100 _ [(.ref b269)] _
      refine XS.dup X273.here hx rfl (hb hby at_100) rfl rfl ?_
      show own_S p e below T273 m 101 #[oI p0, oI p1, oI p2, oI p3, oI p4, oI 3, oI ma0, oI ma1, oI ma2, oD (FP.i2d v0), oV, oD (FP.i2d v1), oV, oD (FP.i2d v2), oV, oR b255, oU, oU, oU, oU, oU, oU, oU, oU] [(.ref b269), (.ref b269)] _
      refine XS.iconst X273.here hx rfl (hb hby at_101) ?_
      show own_S p e below T273 m 102 _ [(.int 1), (.ref b269), (.ref b269)] _
      refine XS.dload X273.here hx rfl (hb hby at_102) rfl ?_
      show own_S p e below T273 m 104 _ [(.double (FP.i2d v1)), (.int 1), (.ref b269), (.ref b269)] _
      refine st277 _ ?_
      show own_S p e below T277 m 105 _ [(.ref b269)] _
      refine XS.dup X277.here hx rfl (hb hby at_105) rfl rfl ?_
      show own_S p e below T277 m 106 _ [(.ref b269), (.ref b269)] _
      refine XS.iconst X277.here hx rfl (hb hby at_106) ?_
      show own_S p e below T277 m 107 _ [(.int 2), (.ref b269), (.ref b269)] _
      refine XS.dload X277.here hx rfl (hb hby at_107) rfl ?_
      show own_S p e below T277 m 109 _ [(.double (FP.i2d v2)), (.int 2), (.ref b269), (.ref b269)] _
      refine st281 _ ?_
      show own_S p e below T281 m 110 #[oI p0, oI p1, oI p2, oI p3, oI p4, oI 3, oI ma0, oI ma1, oI ma2, oD (FP.i2d v0), oV, oD (FP.i2d v1), oV, oD (FP.i2d v2), oV, oR b255, oU, oU, oU, oU, oU, oU, oU, oU] [(.ref b269)] _
      refine XS.astore X281.here hx rfl (hb hby at_110) rfl rfl (l' := #[oI p0, oI p1, oI p2, oI p3, oI p4, oI 3, oI ma0, oI ma1, oI ma2, oD (FP.i2d v0), oV, oD (FP.i2d v1), oV, oD (FP.i2d v2), oV, oR b255, oR b269, oU, oU, oU, oU, oU, oU, oU]) rfl ?_
      show own_S p e below T281 m 112 #[oI p0, oI p1, oI p2, oI p3, oI p4, oI 3, oI ma0, oI ma1, oI ma2, oD (FP.i2d v0), oV, oD (FP.i2d v1), oV, oD (FP.i2d v2), oV, oR b255, oR b269, oU, oU, oU, oU, oU, oU, oU] [] _
      refine XS.aload X281.here hx rfl (hb hby at_112) rfl rfl ?_
      show own_S p e below T281 m 114 _ [(.ref b255)] _
      refine XS.aload X281.here hx rfl (hb hby at_114) rfl rfl ?_
      show own_S p e below T281 m 116 _ [(.ref b269), (.ref b255)] _
      refine XS.iload X281.here hx rfl (hb hby at_116) rfl ?_
      show own_S p e below T281 m 118 _ [(.int 3), (.ref b269), (.ref b255)] _
      refine st284 _ ?_
      show own_S p e below T284 m 121 _ [(.int orr_284)] _
      refine XS.istore X284.here hx rfl (hb hby at_121) rfl (l' := #[oI p0, oI p1, oI p2, oI p3, oI p4, oI 3, oI ma0, oI ma1, oI ma2, oD (FP.i2d v0), oV, oD (FP.i2d v1), oV, oD (FP.i2d v2), oV, oR b255, oR b269, oI orr_284, oU, oU, oU, oU, oU, oU]) rfl ?_
      show own_S p e below T284 m 123 #[oI p0, oI p1, oI p2, oI p3, oI p4, oI 3, oI ma0, oI ma1, oI ma2, oD (FP.i2d v0), oV, oD (FP.i2d v1), oV, oD (FP.i2d v2), oV, oR b255, oR b269, oI orr_284, oU, oU, oU, oU, oU, oU] [] _
      refine XS.iconst X284.here hx rfl (hb hby at_123) ?_
      show own_S p e below T284 m 124 _ [(.int 3)] _
      refine st286 _ ?_
      show own_S p e below T286 m 126 _ [(.ref b286)] _
      refine XS.dup X286.here hx rfl (hb hby at_126) rfl rfl ?_
      show own_S p e below T286 m 127 _ [(.ref b286), (.ref b286)] _
      refine XS.iconst X286.here hx rfl (hb hby at_127) ?_
      show own_S p e below T286 m 128 _ [(.int 0), (.ref b286), (.ref b286)] _
      refine XS.iload X286.here hx rfl (hb hby at_128) rfl ?_
      show own_S p e below T286 m 130 _ [(.int ma0), (.int 0), (.ref b286), (.ref b286)] _
      refine st290 _ ?_
      show own_S p e below T290 m 131 _ [(.ref b286)] _
      refine XS.dup X290.here hx rfl (hb hby at_131) rfl rfl ?_
      show own_S p e below T290 m 132 #[oI p0, oI p1, oI p2, oI p3, oI p4, oI 3, oI ma0, oI ma1, oI ma2, oD (FP.i2d v0), oV, oD (FP.i2d v1), oV, oD (FP.i2d v2), oV, oR b255, oR b269, oI orr_284, oU, oU, oU, oU, oU, oU] [(.ref b286), (.ref b286)] _
      refine XS.iconst X290.here hx rfl (hb hby at_132) ?_
      show own_S p e below T290 m 133 _ [(.int 1), (.ref b286), (.ref b286)] _
      refine XS.iload X290.here hx rfl (hb hby at_133) rfl ?_
      show own_S p e below T290 m 135 _ [(.int ma1), (.int 1), (.ref b286), (.ref b286)] _
      refine st294 _ ?_
      show own_S p e below T294 m 136 _ [(.ref b286)] _
      refine XS.dup X294.here hx rfl (hb hby at_136) rfl rfl ?_
      show own_S p e below T294 m 137 _ [(.ref b286), (.ref b286)] _
      refine XS.iconst X294.here hx rfl (hb hby at_137) ?_
      show own_S p e below T294 m 138 _ [(.int 2), (.ref b286), (.ref b286)] _
      refine XS.iload X294.here hx rfl (hb hby at_138) rfl ?_
      show own_S p e below T294 m 140 _ [(.int ma2), (.int 2), (.ref b286), (.ref b286)] _
      refine st298 _ ?_
      show own_S p e below T298 m 141 #[oI p0, oI p1, oI p2, oI p3, oI p4, oI 3, oI ma0, oI ma1, oI ma2, oD (FP.i2d v0), oV, oD (FP.i2d v1), oV, oD (FP.i2d v2), oV, oR b255, oR b269, oI orr_284, oU, oU, oU, oU, oU, oU] [(.ref b286)] _
      refine XS.astore X298.here hx rfl (hb hby at_141) rfl rfl (l' := #[oI p0, oI p1, oI p2, oI p3, oI p4, oI 3, oI ma0, oI ma1, oI ma2, oD (FP.i2d v0), oV, oD (FP.i2d v1), oV, oD (FP.i2d v2), oV, oR b255, oR b269, oI orr_284, oR b286, oU, oU, oU, oU, oU]) rfl ?_
      show own_S p e below T298 m 143 #[oI p0, oI p1, oI p2, oI p3, oI p4, oI 3, oI ma0, oI ma1, oI ma2, oD (FP.i2d v0), oV, oD (FP.i2d v1), oV, oD (FP.i2d v2), oV, oR b255, oR b269, oI orr_284, oR b286, oU, oU, oU, oU, oU] [] _
      refine XS.iconst X298.here hx rfl (hb hby at_143) ?_
      show own_S p e below T298 m 144 _ [(.int 0)] _
      refine XS.istore X298.here hx rfl (hb hby at_144) rfl (l' := #[oI p0, oI p1, oI p2, oI p3, oI p4, oI 3, oI ma0, oI ma1, oI ma2, oD (FP.i2d v0), oV, oD (FP.i2d v1), oV, oD (FP.i2d v2), oV, oR b255, oR b269, oI orr_284, oR b286, oI 0, oU, oU, oU, oU]) rfl ?_
      show own_S p e below T298 m 146 #[oI p0, oI p1, oI p2, oI p3, oI p4, oI 3, oI ma0, oI ma1, oI ma2, oD (FP.i2d v0), oV, oD (FP.i2d v1), oV, oD (FP.i2d v2), oV, oR b255, oR b269, oI orr_284, oR b286, oI 0, oU, oU, oU, oU] [] _
      refine XS.iload X298.here hx rfl (hb hby at_146) rfl ?_
      show own_S p e below T298 m 148 _ [(.int 3)] _
      refine XS.iconst X298.here hx rfl (hb hby at_148) ?_
      show own_S p e below T298 m 149 _ [(.int 2), (.int 3)] _
      refine XS.icmpYes X298.here hx rfl (pc0 := 149) (pc' := 195) rfl (hb hby at_149) rfl (feq (by decide : ¬ ((3 : Int32) = (2 : Int32)))).2 (by decide) (by decide) ?_
      show own_S p e below T298 m 195 _ [] _
      refine XS.iload X298.here hx rfl (hb hby at_195) rfl ?_
      show own_S p e below T298 m 197 _ [(.int 3)] _
      refine XS.iconst X298.here hx rfl (hb hby at_197) ?_
      show own_S p e below T298 m 198 _ [(.int 3), (.int 3)] _
      refine XS.icmpNo X298.here hx rfl (hb hby at_198) rfl (teq (by decide : (3 : Int32) = (3 : Int32))).2 ?_
      show own_S p e below T298 m 201 _ [] _
      refine XS.iload X298.here hx rfl (hb hby at_201) rfl ?_
      show own_S p e below T298 m 203 #[oI p0, oI p1, oI p2, oI p3, oI p4, oI 3, oI ma0, oI ma1, oI ma2, oD (FP.i2d v0), oV, oD (FP.i2d v1), oV, oD (FP.i2d v2), oV, oR b255, oR b269, oI orr_284, oR b286, oI 0, oU, oU, oU, oU] [(.int ma0)] _
      refine XS.iload X298.here hx rfl (hb hby at_203) rfl ?_
      exact kt
    by_cases e01 : ma0 = ma1
    · skip
      have pre301 : ∀ t, Steps p.tables e below (T298.setTop (mkF m 212 #[oI p0, oI p1, oI p2, oI p3, oI p4, oI 3, oI ma0, oI ma1, oI ma2, oD (FP.i2d v0), oV, oD (FP.i2d v1), oV, oD (FP.i2d v2), oV, oR b255, oR b269, oI orr_284, oR b286, oI 0, oU, oU, oU, oU] [(.int ma2), (.int ma1)])) t → Steps p.tables e below (s₁.setTop (mkF m 0 #[oI p0, oI p1, oI p2, oI p3, oI p4, oU, oU, oU, oU, oU, oU, oU, oU, oU, oU, oU, oU, oU, oU, oU, oU, oU, oU, oU] [])) t := by
        intro t kt
        refine pre300 _ ?_
        show own_S p e below T298 m 205 #[oI p0, oI p1, oI p2, oI p3, oI p4, oI 3, oI ma0, oI ma1, oI ma2, oD (FP.i2d v0), oV, oD (FP.i2d v1), oV, oD (FP.i2d v2), oV, oR b255, oR b269, oI orr_284, oR b286, oI 0, oU, oU, oU, oU] [(.int ma1), (.int ma0)] _
        refine XS.icmpNo X298.here hx rfl (hb hby at_205) rfl (teq (e01 : ma0 = ma1)).2 ?_
        show own_S p e below T298 m 208 _ [] _
        refine XS.iload X298.here hx rfl (hb hby at_208) rfl ?_
        show own_S p e below T298 m 210 _ [(.int ma1)] _
        refine XS.iload X298.here hx rfl (hb hby at_210) rfl ?_
        exact kt
      by_cases e12 : ma1 = ma2
      · skip
        obtain ⟨fq, hfq⟩ : ∃ zz, zz = own_fst ma0 := ⟨_, rfl⟩
        obtain ⟨sn, hsn⟩ : ∃ zz, zz = own_snd ma0 := ⟨_, rfl⟩
        have pre302 : ∀ t, Steps p.tables e below (T298.setTop (mkF m 217 #[oI p0, oI p1, oI p2, oI p3, oI p4, oI 3, oI ma0, oI ma1, oI ma2, oD (FP.i2d v0), oV, oD (FP.i2d v1), oV, oD (FP.i2d v2), oV, oR b255, oR b269, oI orr_284, oR b286, oI 0, oU, oU, oU, oU] [(.int ma0)])) t → Steps p.tables e below (s₁.setTop (mkF m 0 #[oI p0, oI p1, oI p2, oI p3, oI p4, oU, oU, oU, oU, oU, oU, oU, oU, oU, oU, oU, oU, oU, oU, oU, oU, oU, oU, oU] [])) t := by
          intro t kt
          refine pre301 _ ?_
          show own_S p e below T298 m 212 #[oI p0, oI p1, oI p2, oI p3, oI p4, oI 3, oI ma0, oI ma1, oI ma2, oD (FP.i2d v0), oV, oD (FP.i2d v1), oV, oD (FP.i2d v2), oV, oR b255, oR b269, oI orr_284, oR b286, oI 0, oU, oU, oU, oU] [(.int ma2), (.int ma1)] _
          refine XS.icmpNo X298.here hx rfl (hb hby at_212) rfl (teq (e12 : ma1 = ma2)).2 ?_
          show own_S p e below T298 m 215 _ [] _
          refine XS.iload X298.here hx rfl (hb hby at_215) rfl ?_
          exact kt
        have pre303 : ∀ t, Steps p.tables e below (T298.setTop (mkF m 225 #[oI p0, oI p1, oI p2, oI p3, oI p4, oI 3, oI ma0, oI ma1, oI ma2, oD (FP.i2d v0), oV, oD (FP.i2d v1), oV, oD (FP.i2d v2), oV, oR b255, oR b269, oI orr_284, oR b286, oI 0, oU, oU, oU, oU] [(.int fq)])) t → Steps p.tables e below (s₁.setTop (mkF m 0 #[oI p0, oI p1, oI p2, oI p3, oI p4, oU, oU, oU, oU, oU, oU, oU, oU, oU, oU, oU, oU, oU, oU, oU, oU, oU, oU, oU] [])) t := by
          intro t kt
          refine pre302 _ ?_
          show own_S p e below T298 m 217 #[oI p0, oI p1, oI p2, oI p3, oI p4, oI 3, oI ma0, oI ma1, oI ma2, oD (FP.i2d v0), oV, oD (FP.i2d v1), oV, oD (FP.i2d v2), oV, oR b255, oR b269, oI orr_284, oR b286, oI 0, oU, oU, oU, oU] [(.int ma0)] _
          by_cases h17 : ma0 = (0 : Int32)
          · skip
            refine XS.ifNo X298.here hx rfl (hb hby at_217) rfl ((if0 _ _).trans (teq (h17 : ma0 = (0 : Int32))).2) ?_
            show own_S p e below T298 m 220 #[oI p0, oI p1, oI p2, oI p3, oI p4, oI 3, oI ma0, oI ma1, oI ma2, oD (FP.i2d v0), oV, oD (FP.i2d v1), oV, oD (FP.i2d v2), oV, oR b255, oR b269, oI orr_284, oR b286, oI 0, oU, oU, oU, oU] [] _
            refine XS.iconst X298.here hx rfl (hb hby at_220) ?_
            show own_S p e below T298 m 221 _ [(.int 1)] _
            refine XS.goto X298.here hx rfl (pc0 := 221) (pc' := 225) rfl (hb hby at_221) (by decide) (by decide) ?_
            rw [(hfq.trans (if_pos h17) : fq = (1 : Int32))] at kt
            exact kt
          · skip
            refine XS.ifYes X298.here hx rfl (pc0 := 217) (pc' := 224) rfl (hb hby at_217) rfl ((if0 _ _).trans (feq (h17 : ¬ (ma0 = (0 : Int32)))).2) (by decide) (by decide) ?_
            show own_S p e below T298 m 224 #[oI p0, oI p1, oI p2, oI p3, oI p4, oI 3, oI ma0, oI ma1, oI ma2, oD (FP.i2d v0), oV, oD (FP.i2d v1), oV, oD (FP.i2d v2), oV, oR b255, oR b269, oI orr_284, oR b286, oI 0, oU, oU, oU, oU] [] _
            refine XS.iconst X298.here hx rfl (hb hby at_224) ?_
            rw [(hfq.trans (if_neg h17) : fq = (0 : Int32))] at kt
            exact kt
        have pre304 : ∀ t, Steps p.tables e below (T298.setTop (mkF m 230 #[oI p0, oI p1, oI p2, oI p3, oI p4, oI 3, oI ma0, oI ma1, oI ma2, oD (FP.i2d v0), oV, oD (FP.i2d v1), oV, oD (FP.i2d v2), oV, oR b255, oR b269, oI orr_284, oR b286, oI 0, oI fq, oU, oU, oU] [(.int 2), (.int ma0)])) t → Steps p.tables e below (s₁.setTop (mkF m 0 #[oI p0, oI p1, oI p2, oI p3, oI p4, oU, oU, oU, oU, oU, oU, oU, oU, oU, oU, oU, oU, oU, oU, oU, oU, oU, oU, oU] [])) t := by
          intro t kt
          refine pre303 _ ?_
          show own_S p e below T298 m 225 #[oI p0, oI p1, oI p2, oI p3, oI p4, oI 3, oI ma0, oI ma1, oI ma2, oD (FP.i2d v0), oV, oD (FP.i2d v1), oV, oD (FP.i2d v2), oV, oR b255, oR b269, oI orr_284, oR b286, oI 0, oU, oU, oU, oU] [(.int fq)] _
          refine XS.istore X298.here hx rfl (hb hby at_225) rfl (l' := #[oI p0, oI p1, oI p2, oI p3, oI p4, oI 3, oI ma0, oI ma1, oI ma2, oD (FP.i2d v0), oV, oD (FP.i2d v1), oV, oD (FP.i2d v2), oV, oR b255, oR b269, oI orr_284, oR b286, oI 0, oI fq, oU, oU, oU]) rfl ?_
          show own_S p e below T298 m 227 #[oI p0, oI p1, oI p2, oI p3, oI p4, oI 3, oI ma0, oI ma1, oI ma2, oD (FP.i2d v0), oV, oD (FP.i2d v1), oV, oD (FP.i2d v2), oV, oR b255, oR b269, oI orr_284, oR b286, oI 0, oI fq, oU, oU, oU] [] _
          refine XS.iload X298.here hx rfl (hb hby at_227) rfl ?_
          show own_S p e below T298 m 229 _ [(.int ma0)] _
          refine XS.iconst X298.here hx rfl (hb hby at_229) ?_
          exact kt
        have pre305 : ∀ t, Steps p.tables e below (T298.setTop (mkF m 238 #[oI p0, oI p1, oI p2, oI p3, oI p4, oI 3, oI ma0, oI ma1, oI ma2, oD (FP.i2d v0), oV, oD (FP.i2d v1), oV, oD (FP.i2d v2), oV, oR b255, oR b269, oI orr_284, oR b286, oI 0, oI fq, oU, oU, oU] [(.int sn)])) t → Steps p.tables e below (s₁.setTop (mkF m 0 #[oI p0, oI p1, oI p2, oI p3, oI p4, oU, oU, oU, oU, oU, oU, oU, oU, oU, oU, oU, oU, oU, oU, oU, oU, oU, oU, oU] [])) t := by
          intro t kt
          refine pre304 _ ?_
          show own_S p e below T298 m 230 #[oI p0, oI p1, oI p2, oI p3, oI p4, oI 3, oI ma0, oI ma1, oI ma2, oD (FP.i2d v0), oV, oD (FP.i2d v1), oV, oD (FP.i2d v2), oV, oR b255, oR b269, oI orr_284, oR b286, oI 0, oI fq, oU, oU, oU] [(.int 2), (.int ma0)] _
          by_cases h30 : ma0 = (2 : Int32)
          · skip
            refine XS.icmpNo X298.here hx rfl (hb hby at_230) rfl (teq (h30 : ma0 = (2 : Int32))).2 ?_
            show own_S p e below T298 m 233 #[oI p0, oI p1, oI p2, oI p3, oI p4, oI 3, oI ma0, oI ma1, oI ma2, oD (FP.i2d v0), oV, oD (FP.i2d v1), oV, oD (FP.i2d v2), oV, oR b255, oR b269, oI orr_284, oR b286, oI 0, oI fq, oU, oU, oU] [] _
            refine XS.iconst X298.here hx rfl (hb hby at_233) ?_
            show own_S p e below T298 m 234 _ [(.int 1)] _
            refine XS.goto X298.here hx rfl (pc0 := 234) (pc' := 238) rfl (hb hby at_234) (by decide) (by decide) ?_
            rw [(hsn.trans (if_pos h30) : sn = (1 : Int32))] at kt
            exact kt
          · skip
            refine XS.icmpYes X298.here hx rfl (pc0 := 230) (pc' := 237) rfl (hb hby at_230) rfl (feq (h30 : ¬ (ma0 = (2 : Int32)))).2 (by decide) (by decide) ?_
            show own_S p e below T298 m 237 #[oI p0, oI p1, oI p2, oI p3, oI p4, oI 3, oI ma0, oI ma1, oI ma2, oD (FP.i2d v0), oV, oD (FP.i2d v1), oV, oD (FP.i2d v2), oV, oR b255, oR b269, oI orr_284, oR b286, oI 0, oI fq, oU, oU, oU] [] _
            refine XS.iconst X298.here hx rfl (hb hby at_237) ?_
            rw [(hsn.trans (if_neg h30) : sn = (2 : Int32))] at kt
            exact kt
        obtain ⟨_, _, ⟨T306, L306, k306, n306⟩, -, X306, ⟨Lc306, hQ306, l306, y306, z306⟩, st306⟩ := Jvm.LawKit.callS X298 hx (y := (⟨"com/example/metasearch/metasearch/EmptyClustersFillPinLaw", "worst", "(ZZZDDD)I"⟩ : MethodName)) hown (mvT hZ (own_w hw 7 rfl)) (mvT hZ (own_w hw 8 rfl)) (mvT hZ (own_w hw 9 rfl)) (mvT hZ (own_w hw 10 rfl)) (by decide) (backOf (W := 0) (rmw111 l Z a0 hw [] (FP.i2d v0) (FP.i2d v1) (FP.i2d v2) x y z h298 n0 ZZ299 gx gy gz lx) hZ (own_w hw 10 rfl) (own_w hw 9 rfl) (by decide) (by decide)) (g := (mkF m 249 #[oI p0, oI p1, oI p2, oI p3, oI p4, oI 3, oI ma0, oI ma1, oI ma2, oD (FP.i2d v0), oV, oD (FP.i2d v1), oV, oD (FP.i2d v2), oV, oR b255, oR b269, oI orr_284, oR b286, oI 0, oI fq, oI sn, oU, oU] [(.double (FP.i2d v2)), (.double (FP.i2d v1)), (.double (FP.i2d v0)), (.int 1), (.int 1), (.int 1)])) rfl (by rw [hml]; rfl) (argsL := [(.int 1), (.int 1), (.int 1), (.double (FP.i2d v0)), (.double (FP.i2d v1)), (.double (FP.i2d v2))]) (rest := []) (lenOf pd1 rfl) rfl (by show 2 * 0 + _ ≤ _; exact Nat.le_of_eq rfl) (hb hby at_249) (fun _ _ => ⟨rfl, e298, (by decide : 4 + 0 ≤ _), (by decide : 12 + 0 ≤ _)⟩)
        dsimp only [Pt.U, Pt.locs, Pt.cells, Pt.slots] at X306 l306 y306 z306 st306 hQ306
        subst l306 y306 z306
        obtain ⟨rfl, Nq306, P306_0⟩ := hQ306
        have N306 := Fr.app N298 Nq306
        have pre307 : ∀ t, Steps p.tables e below (T306.setTop (mkF m 252 #[oI p0, oI p1, oI p2, oI p3, oI p4, oI 3, oI ma0, oI ma1, oI ma2, oD (FP.i2d v0), oV, oD (FP.i2d v1), oV, oD (FP.i2d v2), oV, oR b255, oR b269, oI orr_284, oR b286, oI 0, oI fq, oI sn, oU, oU] [(.int (own_h111 x y z))])) t → Steps p.tables e below (s₁.setTop (mkF m 0 #[oI p0, oI p1, oI p2, oI p3, oI p4, oU, oU, oU, oU, oU, oU, oU, oU, oU, oU, oU, oU, oU, oU, oU, oU, oU, oU, oU] [])) t := by
          intro t kt
          refine pre305 _ ?_
          show own_S p e below T298 m 238 #[oI p0, oI p1, oI p2, oI p3, oI p4, oI 3, oI ma0, oI ma1, oI ma2, oD (FP.i2d v0), oV, oD (FP.i2d v1), oV, oD (FP.i2d v2), oV, oR b255, oR b269, oI orr_284, oR b286, oI 0, oI fq, oU, oU, oU] [(.int sn)] _
          refine XS.istore X298.here hx rfl (hb hby at_238) rfl (l' := #[oI p0, oI p1, oI p2, oI p3, oI p4, oI 3, oI ma0, oI ma1, oI ma2, oD (FP.i2d v0), oV, oD (FP.i2d v1), oV, oD (FP.i2d v2), oV, oR b255, oR b269, oI orr_284, oR b286, oI 0, oI fq, oI sn, oU, oU]) rfl ?_
          show own_S p e below T298 m 240 #[oI p0, oI p1, oI p2, oI p3, oI p4, oI 3, oI ma0, oI ma1, oI ma2, oD (FP.i2d v0), oV, oD (FP.i2d v1), oV, oD (FP.i2d v2), oV, oR b255, oR b269, oI orr_284, oR b286, oI 0, oI fq, oI sn, oU, oU] [] _
          refine XS.iconst X298.here hx rfl (hb hby at_240) ?_
          show own_S p e below T298 m 241 _ [(.int 1)] _
          refine XS.iconst X298.here hx rfl (hb hby at_241) ?_
          show own_S p e below T298 m 242 _ [(.int 1), (.int 1)] _
          refine XS.iconst X298.here hx rfl (hb hby at_242) ?_
          show own_S p e below T298 m 243 _ [(.int 1), (.int 1), (.int 1)] _
          refine XS.dload X298.here hx rfl (hb hby at_243) rfl ?_
          show own_S p e below T298 m 245 _ [(.double (FP.i2d v0)), (.int 1), (.int 1), (.int 1)] _
          refine XS.dload X298.here hx rfl (hb hby at_245) rfl ?_
          show own_S p e below T298 m 247 _ [(.double (FP.i2d v1)), (.double (FP.i2d v0)), (.int 1), (.int 1), (.int 1)] _
          refine XS.dload X298.here hx rfl (hb hby at_247) rfl ?_
          show own_S p e below T298 m 249 _ [(.double (FP.i2d v2)), (.double (FP.i2d v1)), (.double (FP.i2d v0)), (.int 1), (.int 1), (.int 1)] _
          refine st306 _ ?_
          exact kt
        rcases own_h111r x y z with hwv | hwv | hwv
        · skip
          obtain ⟨cl308, Ar308, qk308, Sz308, Nz308, Hh308, Gg308⟩ := id Va298
          have hin309 : ¬ ((0 : Int32) < 0 ∨ cl308.slots.size ≤ ((0 : Int32)).toNatClampNeg) := inb_of Sz308 ⟨by decide, by decide⟩
          obtain ⟨T310, h310, X310, e310, W310, st310⟩ := stI X306 hx hZ P306_0 Ar308 (j := (0 : Int32)) hin309 (g := (mkF m 260 #[oI p0, oI p1, oI p2, oI p3, oI p4, oI 3, oI ma0, oI ma1, oI ma2, oD (FP.i2d v0), oV, oD (FP.i2d v1), oV, oD (FP.i2d v2), oV, oR b255, oR b269, oI orr_284, oR b286, oI 0, oI fq, oI sn, oI 0, oU] [(.int fq), (.int 0), (.ref b286)])) rfl rfl (hb hby at_260)
          have Va310 := Arv.set Ar308 qk308 Sz308 Nz308 Hh308 Gg308 rfl W310 0 rfl (Nat.le_of_ble_eq_true rfl)
          have N310 := Fr.snoc X310 N306 g_b286
          have ZZ311 : n0 ≤ h310.size := Nat.le_trans ZZ299 (Nat.le_of_eq W310.size.symm)
          obtain ⟨_, _, ⟨T312, L312, k312, n312⟩, -, X312, ⟨Lc312, hQ312, l312, y312, z312⟩, st312⟩ := Jvm.LawKit.callS X310 hx (y := (⟨"com/example/metasearch/metasearch/EmptyClustersFillPinLaw", "worst", "(ZZZDDD)I"⟩ : MethodName)) hown (mvT hZ (own_w hw 7 rfl)) (mvT hZ (own_w hw 8 rfl)) (mvT hZ (own_w hw 9 rfl)) (mvT hZ (own_w hw 10 rfl)) (by decide) (backOf (W := 0) (rmw011 l Z a0 hw [] (FP.i2d v0) (FP.i2d v1) (FP.i2d v2) x y z h310 n0 ZZ311 gx gy gz lx) hZ (own_w hw 10 rfl) (own_w hw 9 rfl) (by decide) (by decide)) (g := (mkF m 299 #[oI p0, oI p1, oI p2, oI p3, oI p4, oI 3, oI ma0, oI ma1, oI ma2, oD (FP.i2d v0), oV, oD (FP.i2d v1), oV, oD (FP.i2d v2), oV, oR b255, oR b269, oI orr_284, oR b286, oI 0, oI fq, oI sn, oI 0, oU] [(.double (FP.i2d v2)), (.double (FP.i2d v1)), (.double (FP.i2d v0)), (.int 1), (.int 1), (.int 0)])) rfl (by rw [hml]; rfl) (argsL := [(.int 0), (.int 1), (.int 1), (.double (FP.i2d v0)), (.double (FP.i2d v1)), (.double (FP.i2d v2))]) (rest := []) (lenOf pd1 rfl) rfl (by show 2 * 0 + _ ≤ _; exact Nat.le_of_eq rfl) (hb hby at_299) (fun _ _ => ⟨rfl, e310, (by decide : 4 + 0 ≤ _), (by decide : 12 + 0 ≤ _)⟩)
          dsimp only [Pt.U, Pt.locs, Pt.cells, Pt.slots] at X312 l312 y312 z312 st312 hQ312
          subst l312 y312 z312
          obtain ⟨rfl, Nq312, P312_0⟩ := hQ312
          have N312 := Fr.app N310 Nq312
          obtain ⟨cl313, Ar313, qk313, Sz313, Nz313, Hh313, Gg313⟩ := id Va310
          have hin314 : ¬ ((own_h011 z) < 0 ∨ cl313.slots.size ≤ ((own_h011 z)).toNatClampNeg) := inb_of Sz313 (own_b3 (own_h011r z))
          obtain ⟨T315, h315, X315, e315, W315, st315⟩ := stI X312 hx hZ P312_0 Ar313 (j := (own_h011 z)) hin314 (g := (mkF m 310 #[oI p0, oI p1, oI p2, oI p3, oI p4, oI 3, oI ma0, oI ma1, oI ma2, oD (FP.i2d v0), oV, oD (FP.i2d v1), oV, oD (FP.i2d v2), oV, oR b255, oR b269, oI orr_284, oR b286, oI 0, oI fq, oI sn, oI 0, oI (own_h011 z)] [(.int sn), (.int (own_h011 z)), (.ref b286)])) rfl rfl (hb hby at_310)
          have Va315 := Arv.set Ar313 qk313 Sz313 Nz313 Hh313 Gg313 rfl W315 ((own_h011 z)).toNatClampNeg rfl (own_l3 (own_h011r z))
          have Vs315 : Arv Z h315 b286 k286 .int (3 : Int32) [(.int (own_p 0 (own_h011 z) sn fq)), (.int (own_p 1 (own_h011 z) sn ma1)), (.int (own_p 2 (own_h011 z) sn ma2))] (.int 0) := by rw [← (own_s3 (own_h011r z) : ([(.int fq), (.int ma1), (.int ma2)] : List Value).set ((own_h011 z)).toNatClampNeg (.int sn) = [(.int (own_p 0 (own_h011 z) sn fq)), (.int (own_p 1 (own_h011 z) sn ma1)), (.int (own_p 2 (own_h011 z) sn ma2))])]; exact Va315
          have N315 := Fr.snoc X315 N312 g_b286
          have ZZ316 : n0 ≤ h315.size := Nat.le_trans ZZ311 (Nat.le_of_eq W315.size.symm)
          have hE := own_E3e0 x y z ra0 ra1 ra2 e01 e12 hwv
          have Fc317 := ((((((P284_1.ext E286).other W290 (Nat.ne_of_lt (Nat.lt_of_lt_of_le P284_1.lt (Nat.le_of_eq g286.symm)))).other W294 (Nat.ne_of_lt (Nat.lt_of_lt_of_le P284_1.lt (Nat.le_of_eq g286.symm)))).other W298 (Nat.ne_of_lt (Nat.lt_of_lt_of_le P284_1.lt (Nat.le_of_eq g286.symm)))).other W310 (Nat.ne_of_lt (Nat.lt_of_lt_of_le P284_1.lt (Nat.le_of_eq g286.symm)))).other W315 (Nat.ne_of_lt (Nat.lt_of_lt_of_le P284_1.lt (Nat.le_of_eq g286.symm))))
          obtain ⟨cl318, Ar318, qk318, Sz318, Nz318, Hh318, Gg318⟩ := id Fc317
          have hin319 : ¬ ((0 : Int32) < 0 ∨ cl318.slots.size ≤ ((0 : Int32)).toNatClampNeg) := inb_of Sz318 ⟨by decide, by decide⟩
          have hat319 : cl318.slots[((0 : Int32)).toNatClampNeg]? = some (.int o0_284) := Has.at Hh318 hin319 rfl
          obtain ⟨cl320, Ar320, qk320, Sz320, Nz320, Hh320, Gg320⟩ := id Vs315
          have hin321 : ¬ ((0 : Int32) < 0 ∨ cl320.slots.size ≤ ((0 : Int32)).toNatClampNeg) := inb_of Sz320 ⟨by decide, by decide⟩
          have hat321 : cl320.slots[((0 : Int32)).toNatClampNeg]? = some (.int (own_p 0 (own_h011 z) sn fq)) := Has.at Hh320 hin321 rfl
          have hin322 : ¬ ((1 : Int32) < 0 ∨ cl318.slots.size ≤ ((1 : Int32)).toNatClampNeg) := inb_of Sz318 ⟨by decide, by decide⟩
          have hat322 : cl318.slots[((1 : Int32)).toNatClampNeg]? = some (.int o1_284) := Has.at Hh318 hin322 rfl
          have hin323 : ¬ ((1 : Int32) < 0 ∨ cl320.slots.size ≤ ((1 : Int32)).toNatClampNeg) := inb_of Sz320 ⟨by decide, by decide⟩
          have hat323 : cl320.slots[((1 : Int32)).toNatClampNeg]? = some (.int (own_p 1 (own_h011 z) sn ma1)) := Has.at Hh320 hin323 rfl
          have hin324 : ¬ ((2 : Int32) < 0 ∨ cl318.slots.size ≤ ((2 : Int32)).toNatClampNeg) := inb_of Sz318 ⟨by decide, by decide⟩
          have hat324 : cl318.slots[((2 : Int32)).toNatClampNeg]? = some (.int o2_284) := Has.at Hh318 hin324 rfl
          have hin325 : ¬ ((2 : Int32) < 0 ∨ cl320.slots.size ≤ ((2 : Int32)).toNatClampNeg) := inb_of Sz320 ⟨by decide, by decide⟩
          have hat325 : cl320.slots[((2 : Int32)).toNatClampNeg]? = some (.int (own_p 2 (own_h011 z) sn ma2)) := Has.at Hh320 hin325 rfl
          have Fc326 := (((((((Va281.keep P284_0 (ninS (Ne.symm (Nat.ne_of_lt (Nat.lt_of_lt_of_le Va267.lt (Nat.le_of_eq g269.symm)))) nin0)).ext E286).other W290 (Nat.ne_of_lt (Nat.lt_of_lt_of_le (Va281.keep P284_0 (ninS (Ne.symm (Nat.ne_of_lt (Nat.lt_of_lt_of_le Va267.lt (Nat.le_of_eq g269.symm)))) nin0)).lt (Nat.le_of_eq g286.symm)))).other W294 (Nat.ne_of_lt (Nat.lt_of_lt_of_le (Va281.keep P284_0 (ninS (Ne.symm (Nat.ne_of_lt (Nat.lt_of_lt_of_le Va267.lt (Nat.le_of_eq g269.symm)))) nin0)).lt (Nat.le_of_eq g286.symm)))).other W298 (Nat.ne_of_lt (Nat.lt_of_lt_of_le (Va281.keep P284_0 (ninS (Ne.symm (Nat.ne_of_lt (Nat.lt_of_lt_of_le Va267.lt (Nat.le_of_eq g269.symm)))) nin0)).lt (Nat.le_of_eq g286.symm)))).other W310 (Nat.ne_of_lt (Nat.lt_of_lt_of_le (Va281.keep P284_0 (ninS (Ne.symm (Nat.ne_of_lt (Nat.lt_of_lt_of_le Va267.lt (Nat.le_of_eq g269.symm)))) nin0)).lt (Nat.le_of_eq g286.symm)))).other W315 (Nat.ne_of_lt (Nat.lt_of_lt_of_le (Va281.keep P284_0 (ninS (Ne.symm (Nat.ne_of_lt (Nat.lt_of_lt_of_le Va267.lt (Nat.le_of_eq g269.symm)))) nin0)).lt (Nat.le_of_eq g286.symm))))
          obtain ⟨cl327, Ar327, qk327, Sz327, Nz327, Hh327, Gg327⟩ := id Fc326
          have hin328 : ¬ ((0 : Int32) < 0 ∨ cl327.slots.size ≤ ((0 : Int32)).toNatClampNeg) := inb_of Sz327 ⟨by decide, by decide⟩
          have hat328 : cl327.slots[((0 : Int32)).toNatClampNeg]? = some (.double (FP.i2d v0)) := Has.at Hh327 hin328 rfl
          have hin329 : ¬ ((1 : Int32) < 0 ∨ cl327.slots.size ≤ ((1 : Int32)).toNatClampNeg) := inb_of Sz327 ⟨by decide, by decide⟩
          have hat329 : cl327.slots[((1 : Int32)).toNatClampNeg]? = some (.double (FP.i2d v1)) := Has.at Hh327 hin329 rfl
          have hin330 : ¬ ((2 : Int32) < 0 ∨ cl327.slots.size ≤ ((2 : Int32)).toNatClampNeg) := inb_of Sz327 ⟨by decide, by decide⟩
          have hat330 : cl327.slots[((2 : Int32)).toNatClampNeg]? = some (.double (FP.i2d v2)) := Has.at Hh327 hin330 rfl
          obtain ⟨fs, hr, hrun, hended, hW, hsame⟩ := X315.leave (v := some (.int 1)) (fun h => by rw [Bd.returns] at h; cases h)
          refine ⟨_, _, pre0 _ (pre307 _ ?_), hrun, hended, _, _, rfl, ?_, ⟨_, rfl⟩, hW, hsame.mono (by decide) (by decide)⟩
          · show own_S p e below T306 m 252 #[oI p0, oI p1, oI p2, oI p3, oI p4, oI 3, oI ma0, oI ma1, oI ma2, oD (FP.i2d v0), oV, oD (FP.i2d v1), oV, oD (FP.i2d v2), oV, oR b255, oR b269, oI orr_284, oR b286, oI 0, oI fq, oI sn, oU, oU] [(.int (own_h111 x y z))] _
            refine reI (hwv : (own_h111 x y z) = (0 : Int32)) ?_
            show own_S p e below T306 m 252 _ [(.int 0)] _
            refine XS.istore X306.here hx rfl (hb hby at_252) rfl (l' := #[oI p0, oI p1, oI p2, oI p3, oI p4, oI 3, oI ma0, oI ma1, oI ma2, oD (FP.i2d v0), oV, oD (FP.i2d v1), oV, oD (FP.i2d v2), oV, oR b255, oR b269, oI orr_284, oR b286, oI 0, oI fq, oI sn, oI 0, oU]) rfl ?_
            show own_S p e below T306 m 254 #[oI p0, oI p1, oI p2, oI p3, oI p4, oI 3, oI ma0, oI ma1, oI ma2, oD (FP.i2d v0), oV, oD (FP.i2d v1), oV, oD (FP.i2d v2), oV, oR b255, oR b269, oI orr_284, oR b286, oI 0, oI fq, oI sn, oI 0, oU] [] _
            refine XS.aload X306.here hx rfl (hb hby at_254) rfl rfl ?_
            show own_S p e below T306 m 256 _ [(.ref b286)] _
            refine XS.iload X306.here hx rfl (hb hby at_256) rfl ?_
            show own_S p e below T306 m 258 _ [(.int 0), (.ref b286)] _
            refine XS.iload X306.here hx rfl (hb hby at_258) rfl ?_
            show own_S p e below T306 m 260 _ [(.int fq), (.int 0), (.ref b286)] _
            refine st310 _ ?_
            show own_S p e below T310 m 261 _ [] _
            refine XS.iload X310.here hx rfl (hb hby at_261) rfl ?_
            show own_S p e below T310 m 263 _ [(.int 0)] _
            refine XS.ifYes X310.here hx rfl (pc0 := 263) (pc' := 270) rfl (hb hby at_263) rfl ((if0 _ _).trans (teq (by decide : (0 : Int32) = (0 : Int32))).1) (by decide) (by decide) ?_
            show own_S p e below T310 m 270 _ [] _
            refine XS.iconst X310.here hx rfl (hb hby at_270) ?_
            show own_S p e below T310 m 271 #[oI p0, oI p1, oI p2, oI p3, oI p4, oI 3, oI ma0, oI ma1, oI ma2, oD (FP.i2d v0), oV, oD (FP.i2d v1), oV, oD (FP.i2d v2), oV, oR b255, oR b269, oI orr_284, oR b286, oI 0, oI fq, oI sn, oI 0, oU] [(.int 0)] _
            refine XS.iload X310.here hx rfl (hb hby at_271) rfl ?_
            show own_S p e below T310 m 273 _ [(.int 0), (.int 0)] _
            refine XS.iconst X310.here hx rfl (hb hby at_273) ?_
            show own_S p e below T310 m 274 _ [(.int 1), (.int 0), (.int 0)] _
            refine XS.icmpNo X310.here hx rfl (hb hby at_274) rfl (feq (by decide : ¬ ((0 : Int32) = (1 : Int32)))).1 ?_
            show own_S p e below T310 m 277 _ [(.int 0)] _
            refine XS.iconst X310.here hx rfl (hb hby at_277) ?_
            show own_S p e below T310 m 278 _ [(.int 1), (.int 0)] _
            refine XS.goto X310.here hx rfl (pc0 := 278) (pc' := 282) rfl (hb hby at_278) (by decide) (by decide) ?_
            show own_S p e below T310 m 282 _ [(.int 1), (.int 0)] _
            refine XS.iload X310.here hx rfl (hb hby at_282) rfl ?_
            show own_S p e below T310 m 284 _ [(.int 0), (.int 1), (.int 0)] _
            refine XS.iconst X310.here hx rfl (hb hby at_284) ?_
            show own_S p e below T310 m 285 #[oI p0, oI p1, oI p2, oI p3, oI p4, oI 3, oI ma0, oI ma1, oI ma2, oD (FP.i2d v0), oV, oD (FP.i2d v1), oV, oD (FP.i2d v2), oV, oR b255, oR b269, oI orr_284, oR b286, oI 0, oI fq, oI sn, oI 0, oU] [(.int 2), (.int 0), (.int 1), (.int 0)] _
            refine XS.icmpNo X310.here hx rfl (hb hby at_285) rfl (feq (by decide : ¬ ((0 : Int32) = (2 : Int32)))).1 ?_
            show own_S p e below T310 m 288 _ [(.int 1), (.int 0)] _
            refine XS.iconst X310.here hx rfl (hb hby at_288) ?_
            show own_S p e below T310 m 289 _ [(.int 1), (.int 1), (.int 0)] _
            refine XS.goto X310.here hx rfl (pc0 := 289) (pc' := 293) rfl (hb hby at_289) (by decide) (by decide) ?_
            show own_S p e below T310 m 293 _ [(.int 1), (.int 1), (.int 0)] _
            refine XS.dload X310.here hx rfl (hb hby at_293) rfl ?_
            show own_S p e below T310 m 295 _ [(.double (FP.i2d v0)), (.int 1), (.int 1), (.int 0)] _
            refine XS.dload X310.here hx rfl (hb hby at_295) rfl ?_
            show own_S p e below T310 m 297 _ [(.double (FP.i2d v1)), (.double (FP.i2d v0)), (.int 1), (.int 1), (.int 0)] _
            refine XS.dload X310.here hx rfl (hb hby at_297) rfl ?_
            show own_S p e below T310 m 299 _ [(.double (FP.i2d v2)), (.double (FP.i2d v1)), (.double (FP.i2d v0)), (.int 1), (.int 1), (.int 0)] _
            refine st312 _ ?_
            show own_S p e below T312 m 302 #[oI p0, oI p1, oI p2, oI p3, oI p4, oI 3, oI ma0, oI ma1, oI ma2, oD (FP.i2d v0), oV, oD (FP.i2d v1), oV, oD (FP.i2d v2), oV, oR b255, oR b269, oI orr_284, oR b286, oI 0, oI fq, oI sn, oI 0, oU] [(.int (own_h011 z))] _
            refine XS.istore X312.here hx rfl (hb hby at_302) rfl (l' := #[oI p0, oI p1, oI p2, oI p3, oI p4, oI 3, oI ma0, oI ma1, oI ma2, oD (FP.i2d v0), oV, oD (FP.i2d v1), oV, oD (FP.i2d v2), oV, oR b255, oR b269, oI orr_284, oR b286, oI 0, oI fq, oI sn, oI 0, oI (own_h011 z)]) rfl ?_
            show own_S p e below T312 m 304 #[oI p0, oI p1, oI p2, oI p3, oI p4, oI 3, oI ma0, oI ma1, oI ma2, oD (FP.i2d v0), oV, oD (FP.i2d v1), oV, oD (FP.i2d v2), oV, oR b255, oR b269, oI orr_284, oR b286, oI 0, oI fq, oI sn, oI 0, oI (own_h011 z)] [] _
            refine XS.aload X312.here hx rfl (hb hby at_304) rfl rfl ?_
            show own_S p e below T312 m 306 _ [(.ref b286)] _
            refine XS.iload X312.here hx rfl (hb hby at_306) rfl ?_
            show own_S p e below T312 m 308 _ [(.int (own_h011 z)), (.ref b286)] _
            refine XS.iload X312.here hx rfl (hb hby at_308) rfl ?_
            show own_S p e below T312 m 310 _ [(.int sn), (.int (own_h011 z)), (.ref b286)] _
            refine st315 _ ?_
            show own_S p e below T315 m 311 _ [] _
            refine XS.iconst X315.here hx rfl (hb hby at_311) ?_
            show own_S p e below T315 m 312 _ [(.int 1)] _
            refine XS.istore X315.here hx rfl (hb hby at_312) rfl (l' := #[oI p0, oI p1, oI p2, oI p3, oI p4, oI 3, oI ma0, oI ma1, oI ma2, oD (FP.i2d v0), oV, oD (FP.i2d v1), oV, oD (FP.i2d v2), oV, oR b255, oR b269, oI orr_284, oR b286, oI 1, oI fq, oI sn, oI 0, oI (own_h011 z)]) rfl ?_
            show own_S p e below T315 m 314 #[oI p0, oI p1, oI p2, oI p3, oI p4, oI 3, oI ma0, oI ma1, oI ma2, oD (FP.i2d v0), oV, oD (FP.i2d v1), oV, oD (FP.i2d v2), oV, oR b255, oR b269, oI orr_284, oR b286, oI 1, oI fq, oI sn, oI 0, oI (own_h011 z)] [] _
            refine XS.goto X315.here hx rfl (pc0 := 314) (pc' := 461) rfl (hb hby at_314) (by decide) (by decide) ?_
            show own_S p e below T315 m 461 _ [] _
            refine XS.iload X315.here hx rfl (hb hby at_461) rfl ?_
            show own_S p e below T315 m 463 _ [(.int orr_284)] _
            refine XS.iload X315.here hx rfl (hb hby at_463) rfl ?_
            show own_S p e below T315 m 465 _ [(.int 1), (.int orr_284)] _
            refine XS.icmpNo X315.here hx rfl (hb hby at_465) rfl (teq ((hPF.2.2.2.symm.trans hE.2.2.2) : orr_284 = (1 : Int32))).2 ?_
            show own_S p e below T315 m 468 _ [] _
            refine XS.aload X315.here hx rfl (hb hby at_468) rfl rfl ?_
            show own_S p e below T315 m 470 _ [(.ref b255)] _
            refine XS.iconst X315.here hx rfl (hb hby at_470) ?_
            show own_S p e below T315 m 471 _ [(.int 0), (.ref b255)] _
            refine X315.iaload hx (j := (0 : Int32)) (v := (.int o0_284)) (by rw [e315]; exact Ar318.1) (State.isArrayOf_alike hZ.alike Ar318.2.1) Ar318.2.2 hin319 hat319 (g := (mkF m 471 #[oI p0, oI p1, oI p2, oI p3, oI p4, oI 3, oI ma0, oI ma1, oI ma2, oD (FP.i2d v0), oV, oD (FP.i2d v1), oV, oD (FP.i2d v2), oV, oR b255, oR b269, oI orr_284, oR b286, oI 1, oI fq, oI sn, oI 0, oI (own_h011 z)] [(.int 0), (.ref b255)])) rfl rfl (hb hby at_471) _ ?_
            show own_S p e below T315 m 472 #[oI p0, oI p1, oI p2, oI p3, oI p4, oI 3, oI ma0, oI ma1, oI ma2, oD (FP.i2d v0), oV, oD (FP.i2d v1), oV, oD (FP.i2d v2), oV, oR b255, oR b269, oI orr_284, oR b286, oI 1, oI fq, oI sn, oI 0, oI (own_h011 z)] [(.int o0_284)] _
            refine XS.aload X315.here hx rfl (hb hby at_472) rfl rfl ?_
            show own_S p e below T315 m 474 _ [(.ref b286), (.int o0_284)] _
            refine XS.iconst X315.here hx rfl (hb hby at_474) ?_
            show own_S p e below T315 m 475 _ [(.int 0), (.ref b286), (.int o0_284)] _
            refine X315.iaload hx (j := (0 : Int32)) (v := (.int (own_p 0 (own_h011 z) sn fq))) (by rw [e315]; exact Ar320.1) (State.isArrayOf_alike hZ.alike Ar320.2.1) Ar320.2.2 hin321 hat321 (g := (mkF m 475 #[oI p0, oI p1, oI p2, oI p3, oI p4, oI 3, oI ma0, oI ma1, oI ma2, oD (FP.i2d v0), oV, oD (FP.i2d v1), oV, oD (FP.i2d v2), oV, oR b255, oR b269, oI orr_284, oR b286, oI 1, oI fq, oI sn, oI 0, oI (own_h011 z)] [(.int 0), (.ref b286), (.int o0_284)])) rfl rfl (hb hby at_475) _ ?_
            show own_S p e below T315 m 476 _ [(.int (own_p 0 (own_h011 z) sn fq)), (.int o0_284)] _
            refine XS.icmpNo X315.here hx rfl (hb hby at_476) rfl (teq ((by first | (rw [hfq, hsn]; exact (hPF.1.symm.trans hE.1)) | (rw [hsn]; exact (hPF.1.symm.trans hE.1))) : o0_284 = (own_p 0 (own_h011 z) sn fq))).2 ?_
            show own_S p e below T315 m 479 _ [] _
            refine XS.aload X315.here hx rfl (hb hby at_479) rfl rfl ?_
            show own_S p e below T315 m 481 _ [(.ref b255)] _
            refine XS.iconst X315.here hx rfl (hb hby at_481) ?_
            show own_S p e below T315 m 482 _ [(.int 1), (.ref b255)] _
            refine X315.iaload hx (j := (1 : Int32)) (v := (.int o1_284)) (by rw [e315]; exact Ar318.1) (State.isArrayOf_alike hZ.alike Ar318.2.1) Ar318.2.2 hin322 hat322 (g := (mkF m 482 #[oI p0, oI p1, oI p2, oI p3, oI p4, oI 3, oI ma0, oI ma1, oI ma2, oD (FP.i2d v0), oV, oD (FP.i2d v1), oV, oD (FP.i2d v2), oV, oR b255, oR b269, oI orr_284, oR b286, oI 1, oI fq, oI sn, oI 0, oI (own_h011 z)] [(.int 1), (.ref b255)])) rfl rfl (hb hby at_482) _ ?_
            show own_S p e below T315 m 483 #[oI p0, oI p1, oI p2, oI p3, oI p4, oI 3, oI ma0, oI ma1, oI ma2, oD (FP.i2d v0), oV, oD (FP.i2d v1), oV, oD (FP.i2d v2), oV, oR b255, oR b269, oI orr_284, oR b286, oI 1, oI fq, oI sn, oI 0, oI (own_h011 z)] [(.int o1_284)] _
            refine XS.aload X315.here hx rfl (hb hby at_483) rfl rfl ?_
            show own_S p e below T315 m 485 _ [(.ref b286), (.int o1_284)] _
            refine XS.iconst X315.here hx rfl (hb hby at_485) ?_
            show own_S p e below T315 m 486 _ [(.int 1), (.ref b286), (.int o1_284)] _
            refine X315.iaload hx (j := (1 : Int32)) (v := (.int (own_p 1 (own_h011 z) sn ma1))) (by rw [e315]; exact Ar320.1) (State.isArrayOf_alike hZ.alike Ar320.2.1) Ar320.2.2 hin323 hat323 (g := (mkF m 486 #[oI p0, oI p1, oI p2, oI p3, oI p4, oI 3, oI ma0, oI ma1, oI ma2, oD (FP.i2d v0), oV, oD (FP.i2d v1), oV, oD (FP.i2d v2), oV, oR b255, oR b269, oI orr_284, oR b286, oI 1, oI fq, oI sn, oI 0, oI (own_h011 z)] [(.int 1), (.ref b286), (.int o1_284)])) rfl rfl (hb hby at_486) _ ?_
            show own_S p e below T315 m 487 _ [(.int (own_p 1 (own_h011 z) sn ma1)), (.int o1_284)] _
            refine XS.icmpNo X315.here hx rfl (hb hby at_487) rfl (teq ((by first | (rw [hfq, hsn]; exact (hPF.2.1.symm.trans hE.2.1)) | (rw [hsn]; exact (hPF.2.1.symm.trans hE.2.1))) : o1_284 = (own_p 1 (own_h011 z) sn ma1))).2 ?_
            show own_S p e below T315 m 490 _ [] _
            refine XS.aload X315.here hx rfl (hb hby at_490) rfl rfl ?_
            show own_S p e below T315 m 492 _ [(.ref b255)] _
            refine XS.iconst X315.here hx rfl (hb hby at_492) ?_
            show own_S p e below T315 m 493 _ [(.int 2), (.ref b255)] _
            refine X315.iaload hx (j := (2 : Int32)) (v := (.int o2_284)) (by rw [e315]; exact Ar318.1) (State.isArrayOf_alike hZ.alike Ar318.2.1) Ar318.2.2 hin324 hat324 (g := (mkF m 493 #[oI p0, oI p1, oI p2, oI p3, oI p4, oI 3, oI ma0, oI ma1, oI ma2, oD (FP.i2d v0), oV, oD (FP.i2d v1), oV, oD (FP.i2d v2), oV, oR b255, oR b269, oI orr_284, oR b286, oI 1, oI fq, oI sn, oI 0, oI (own_h011 z)] [(.int 2), (.ref b255)])) rfl rfl (hb hby at_493) _ ?_
            show own_S p e below T315 m 494 #[oI p0, oI p1, oI p2, oI p3, oI p4, oI 3, oI ma0, oI ma1, oI ma2, oD (FP.i2d v0), oV, oD (FP.i2d v1), oV, oD (FP.i2d v2), oV, oR b255, oR b269, oI orr_284, oR b286, oI 1, oI fq, oI sn, oI 0, oI (own_h011 z)] [(.int o2_284)] _
            refine XS.aload X315.here hx rfl (hb hby at_494) rfl rfl ?_
            show own_S p e below T315 m 496 _ [(.ref b286), (.int o2_284)] _
            refine XS.iconst X315.here hx rfl (hb hby at_496) ?_
            show own_S p e below T315 m 497 _ [(.int 2), (.ref b286), (.int o2_284)] _
            refine X315.iaload hx (j := (2 : Int32)) (v := (.int (own_p 2 (own_h011 z) sn ma2))) (by rw [e315]; exact Ar320.1) (State.isArrayOf_alike hZ.alike Ar320.2.1) Ar320.2.2 hin325 hat325 (g := (mkF m 497 #[oI p0, oI p1, oI p2, oI p3, oI p4, oI 3, oI ma0, oI ma1, oI ma2, oD (FP.i2d v0), oV, oD (FP.i2d v1), oV, oD (FP.i2d v2), oV, oR b255, oR b269, oI orr_284, oR b286, oI 1, oI fq, oI sn, oI 0, oI (own_h011 z)] [(.int 2), (.ref b286), (.int o2_284)])) rfl rfl (hb hby at_497) _ ?_
            show own_S p e below T315 m 498 _ [(.int (own_p 2 (own_h011 z) sn ma2)), (.int o2_284)] _
            refine XS.icmpNo X315.here hx rfl (hb hby at_498) rfl (teq ((by first | (rw [hfq, hsn]; exact (hPF.2.2.1.symm.trans hE.2.2.1)) | (rw [hsn]; exact (hPF.2.2.1.symm.trans hE.2.2.1))) : o2_284 = (own_p 2 (own_h011 z) sn ma2))).2 ?_
            show own_S p e below T315 m 501 _ [] _
            refine XS.aload X315.here hx rfl (hb hby at_501) rfl rfl ?_
            show own_S p e below T315 m 503 _ [(.ref b269)] _
            refine XS.iconst X315.here hx rfl (hb hby at_503) ?_
            show own_S p e below T315 m 504 _ [(.int 0), (.ref b269)] _
            refine X315.daload hx (j := (0 : Int32)) (v := (.double (FP.i2d v0))) (by rw [e315]; exact Ar327.1) (State.isArrayOf_alike hZ.alike Ar327.2.1) Ar327.2.2 hin328 hat328 (g := (mkF m 504 #[oI p0, oI p1, oI p2, oI p3, oI p4, oI 3, oI ma0, oI ma1, oI ma2, oD (FP.i2d v0), oV, oD (FP.i2d v1), oV, oD (FP.i2d v2), oV, oR b255, oR b269, oI orr_284, oR b286, oI 1, oI fq, oI sn, oI 0, oI (own_h011 z)] [(.int 0), (.ref b269)])) rfl rfl (hb hby at_504) _ ?_
            show own_S p e below T315 m 505 #[oI p0, oI p1, oI p2, oI p3, oI p4, oI 3, oI ma0, oI ma1, oI ma2, oD (FP.i2d v0), oV, oD (FP.i2d v1), oV, oD (FP.i2d v2), oV, oR b255, oR b269, oI orr_284, oR b286, oI 1, oI fq, oI sn, oI 0, oI (own_h011 z)] [(.double (FP.i2d v0))] _
            refine XS.dload X315.here hx rfl (hb hby at_505) rfl ?_
            show own_S p e below T315 m 507 _ [(.double (FP.i2d v0)), (.double (FP.i2d v0))] _
            refine XS.dcmpS X315.here hx rfl (v := (0 : Int32)) (hb hby at_507) rfl (own_ieq (FP.Core.i2d_int v0) (FP.Core.i2d_int v0) rfl .l) ?_
            show own_S p e below T315 m 508 _ [(.int 0)] _
            refine XS.ifNo X315.here hx rfl (hb hby at_508) rfl ((if0 _ _).trans (teq (by decide : (0 : Int32) = (0 : Int32))).2) ?_
            show own_S p e below T315 m 511 _ [] _
            refine XS.aload X315.here hx rfl (hb hby at_511) rfl rfl ?_
            show own_S p e below T315 m 513 _ [(.ref b269)] _
            refine XS.iconst X315.here hx rfl (hb hby at_513) ?_
            show own_S p e below T315 m 514 _ [(.int 1), (.ref b269)] _
            refine X315.daload hx (j := (1 : Int32)) (v := (.double (FP.i2d v1))) (by rw [e315]; exact Ar327.1) (State.isArrayOf_alike hZ.alike Ar327.2.1) Ar327.2.2 hin329 hat329 (g := (mkF m 514 #[oI p0, oI p1, oI p2, oI p3, oI p4, oI 3, oI ma0, oI ma1, oI ma2, oD (FP.i2d v0), oV, oD (FP.i2d v1), oV, oD (FP.i2d v2), oV, oR b255, oR b269, oI orr_284, oR b286, oI 1, oI fq, oI sn, oI 0, oI (own_h011 z)] [(.int 1), (.ref b269)])) rfl rfl (hb hby at_514) _ ?_
            show own_S p e below T315 m 515 _ [(.double (FP.i2d v1))] _
            refine XS.dload X315.here hx rfl (hb hby at_515) rfl ?_
            show own_S p e below T315 m 517 #[oI p0, oI p1, oI p2, oI p3, oI p4, oI 3, oI ma0, oI ma1, oI ma2, oD (FP.i2d v0), oV, oD (FP.i2d v1), oV, oD (FP.i2d v2), oV, oR b255, oR b269, oI orr_284, oR b286, oI 1, oI fq, oI sn, oI 0, oI (own_h011 z)] [(.double (FP.i2d v1)), (.double (FP.i2d v1))] _
            refine XS.dcmpS X315.here hx rfl (v := (0 : Int32)) (hb hby at_517) rfl (own_ieq (FP.Core.i2d_int v1) (FP.Core.i2d_int v1) rfl .l) ?_
            show own_S p e below T315 m 518 _ [(.int 0)] _
            refine XS.ifNo X315.here hx rfl (hb hby at_518) rfl ((if0 _ _).trans (teq (by decide : (0 : Int32) = (0 : Int32))).2) ?_
            show own_S p e below T315 m 521 _ [] _
            refine XS.aload X315.here hx rfl (hb hby at_521) rfl rfl ?_
            show own_S p e below T315 m 523 _ [(.ref b269)] _
            refine XS.iconst X315.here hx rfl (hb hby at_523) ?_
            show own_S p e below T315 m 524 _ [(.int 2), (.ref b269)] _
            refine X315.daload hx (j := (2 : Int32)) (v := (.double (FP.i2d v2))) (by rw [e315]; exact Ar327.1) (State.isArrayOf_alike hZ.alike Ar327.2.1) Ar327.2.2 hin330 hat330 (g := (mkF m 524 #[oI p0, oI p1, oI p2, oI p3, oI p4, oI 3, oI ma0, oI ma1, oI ma2, oD (FP.i2d v0), oV, oD (FP.i2d v1), oV, oD (FP.i2d v2), oV, oR b255, oR b269, oI orr_284, oR b286, oI 1, oI fq, oI sn, oI 0, oI (own_h011 z)] [(.int 2), (.ref b269)])) rfl rfl (hb hby at_524) _ ?_
            show own_S p e below T315 m 525 _ [(.double (FP.i2d v2))] _
            refine XS.dload X315.here hx rfl (hb hby at_525) rfl ?_
            show own_S p e below T315 m 527 _ [(.double (FP.i2d v2)), (.double (FP.i2d v2))] _
            refine XS.dcmpS X315.here hx rfl (v := (0 : Int32)) (hb hby at_527) rfl (own_ieq (FP.Core.i2d_int v2) (FP.Core.i2d_int v2) rfl .l) ?_
            show own_S p e below T315 m 528 #[oI p0, oI p1, oI p2, oI p3, oI p4, oI 3, oI ma0, oI ma1, oI ma2, oD (FP.i2d v0), oV, oD (FP.i2d v1), oV, oD (FP.i2d v2), oV, oR b255, oR b269, oI orr_284, oR b286, oI 1, oI fq, oI sn, oI 0, oI (own_h011 z)] [(.int 0)] _
            refine XS.ifNo X315.here hx rfl (hb hby at_528) rfl ((if0 _ _).trans (teq (by decide : (0 : Int32) = (0 : Int32))).2) ?_
            show own_S p e below T315 m 531 _ [] _
            refine XS.iconst X315.here hx rfl (hb hby at_531) ?_
            show own_S p e below T315 m 532 _ [(.int 1)] _
            refine XS.goto X315.here hx rfl (pc0 := 532) (pc' := 536) rfl (hb hby at_532) (by decide) (by decide) ?_
            show own_S p e below T315 m 536 _ [(.int 1)] _
            exact retN X315 hx (t := .boolean) Bd.returns (by simp) (hb hby at_536) hr
          · show Qm0 Z p0 p1 p2 p3 p4 h0 n0 _ T315.heap _
            rw [e315]
            exact ⟨rfl, N315⟩
        · skip
          obtain ⟨cl331, Ar331, qk331, Sz331, Nz331, Hh331, Gg331⟩ := id Va298
          have hin332 : ¬ ((1 : Int32) < 0 ∨ cl331.slots.size ≤ ((1 : Int32)).toNatClampNeg) := inb_of Sz331 ⟨by decide, by decide⟩
          obtain ⟨T333, h333, X333, e333, W333, st333⟩ := stI X306 hx hZ P306_0 Ar331 (j := (1 : Int32)) hin332 (g := (mkF m 260 #[oI p0, oI p1, oI p2, oI p3, oI p4, oI 3, oI ma0, oI ma1, oI ma2, oD (FP.i2d v0), oV, oD (FP.i2d v1), oV, oD (FP.i2d v2), oV, oR b255, oR b269, oI orr_284, oR b286, oI 0, oI fq, oI sn, oI 1, oU] [(.int fq), (.int 1), (.ref b286)])) rfl rfl (hb hby at_260)
          have Va333 := Arv.set Ar331 qk331 Sz331 Nz331 Hh331 Gg331 rfl W333 1 rfl (Nat.le_of_ble_eq_true rfl)
          have N333 := Fr.snoc X333 N306 g_b286
          have ZZ334 : n0 ≤ h333.size := Nat.le_trans ZZ299 (Nat.le_of_eq W333.size.symm)
          obtain ⟨_, _, ⟨T335, L335, k335, n335⟩, -, X335, ⟨Lc335, hQ335, l335, y335, z335⟩, st335⟩ := Jvm.LawKit.callS X333 hx (y := (⟨"com/example/metasearch/metasearch/EmptyClustersFillPinLaw", "worst", "(ZZZDDD)I"⟩ : MethodName)) hown (mvT hZ (own_w hw 7 rfl)) (mvT hZ (own_w hw 8 rfl)) (mvT hZ (own_w hw 9 rfl)) (mvT hZ (own_w hw 10 rfl)) (by decide) (backOf (W := 0) (rmw101 l Z a0 hw [] (FP.i2d v0) (FP.i2d v1) (FP.i2d v2) x y z h333 n0 ZZ334 gx gy gz lx) hZ (own_w hw 10 rfl) (own_w hw 9 rfl) (by decide) (by decide)) (g := (mkF m 299 #[oI p0, oI p1, oI p2, oI p3, oI p4, oI 3, oI ma0, oI ma1, oI ma2, oD (FP.i2d v0), oV, oD (FP.i2d v1), oV, oD (FP.i2d v2), oV, oR b255, oR b269, oI orr_284, oR b286, oI 0, oI fq, oI sn, oI 1, oU] [(.double (FP.i2d v2)), (.double (FP.i2d v1)), (.double (FP.i2d v0)), (.int 1), (.int 0), (.int 1)])) rfl (by rw [hml]; rfl) (argsL := [(.int 1), (.int 0), (.int 1), (.double (FP.i2d v0)), (.double (FP.i2d v1)), (.double (FP.i2d v2))]) (rest := []) (lenOf pd1 rfl) rfl (by show 2 * 0 + _ ≤ _; exact Nat.le_of_eq rfl) (hb hby at_299) (fun _ _ => ⟨rfl, e333, (by decide : 4 + 0 ≤ _), (by decide : 12 + 0 ≤ _)⟩)
          dsimp only [Pt.U, Pt.locs, Pt.cells, Pt.slots] at X335 l335 y335 z335 st335 hQ335
          subst l335 y335 z335
          obtain ⟨rfl, Nq335, P335_0⟩ := hQ335
          have N335 := Fr.app N333 Nq335
          obtain ⟨cl336, Ar336, qk336, Sz336, Nz336, Hh336, Gg336⟩ := id Va333
          have hin337 : ¬ ((own_h101 y) < 0 ∨ cl336.slots.size ≤ ((own_h101 y)).toNatClampNeg) := inb_of Sz336 (own_b3 (own_h101r y))
          obtain ⟨T338, h338, X338, e338, W338, st338⟩ := stI X335 hx hZ P335_0 Ar336 (j := (own_h101 y)) hin337 (g := (mkF m 310 #[oI p0, oI p1, oI p2, oI p3, oI p4, oI 3, oI ma0, oI ma1, oI ma2, oD (FP.i2d v0), oV, oD (FP.i2d v1), oV, oD (FP.i2d v2), oV, oR b255, oR b269, oI orr_284, oR b286, oI 0, oI fq, oI sn, oI 1, oI (own_h101 y)] [(.int sn), (.int (own_h101 y)), (.ref b286)])) rfl rfl (hb hby at_310)
          have Va338 := Arv.set Ar336 qk336 Sz336 Nz336 Hh336 Gg336 rfl W338 ((own_h101 y)).toNatClampNeg rfl (own_l3 (own_h101r y))
          have Vs338 : Arv Z h338 b286 k286 .int (3 : Int32) [(.int (own_p 0 (own_h101 y) sn ma0)), (.int (own_p 1 (own_h101 y) sn fq)), (.int (own_p 2 (own_h101 y) sn ma2))] (.int 0) := by rw [← (own_s3 (own_h101r y) : ([(.int ma0), (.int fq), (.int ma2)] : List Value).set ((own_h101 y)).toNatClampNeg (.int sn) = [(.int (own_p 0 (own_h101 y) sn ma0)), (.int (own_p 1 (own_h101 y) sn fq)), (.int (own_p 2 (own_h101 y) sn ma2))])]; exact Va338
          have N338 := Fr.snoc X338 N335 g_b286
          have ZZ339 : n0 ≤ h338.size := Nat.le_trans ZZ334 (Nat.le_of_eq W338.size.symm)
          have hE := own_E3e1 x y z ra0 ra1 ra2 e01 e12 hwv
          have Fc340 := ((((((P284_1.ext E286).other W290 (Nat.ne_of_lt (Nat.lt_of_lt_of_le P284_1.lt (Nat.le_of_eq g286.symm)))).other W294 (Nat.ne_of_lt (Nat.lt_of_lt_of_le P284_1.lt (Nat.le_of_eq g286.symm)))).other W298 (Nat.ne_of_lt (Nat.lt_of_lt_of_le P284_1.lt (Nat.le_of_eq g286.symm)))).other W333 (Nat.ne_of_lt (Nat.lt_of_lt_of_le P284_1.lt (Nat.le_of_eq g286.symm)))).other W338 (Nat.ne_of_lt (Nat.lt_of_lt_of_le P284_1.lt (Nat.le_of_eq g286.symm))))
          obtain ⟨cl341, Ar341, qk341, Sz341, Nz341, Hh341, Gg341⟩ := id Fc340
          have hin342 : ¬ ((0 : Int32) < 0 ∨ cl341.slots.size ≤ ((0 : Int32)).toNatClampNeg) := inb_of Sz341 ⟨by decide, by decide⟩
          have hat342 : cl341.slots[((0 : Int32)).toNatClampNeg]? = some (.int o0_284) := Has.at Hh341 hin342 rfl
          obtain ⟨cl343, Ar343, qk343, Sz343, Nz343, Hh343, Gg343⟩ := id Vs338
          have hin344 : ¬ ((0 : Int32) < 0 ∨ cl343.slots.size ≤ ((0 : Int32)).toNatClampNeg) := inb_of Sz343 ⟨by decide, by decide⟩
          have hat344 : cl343.slots[((0 : Int32)).toNatClampNeg]? = some (.int (own_p 0 (own_h101 y) sn ma0)) := Has.at Hh343 hin344 rfl
          have hin345 : ¬ ((1 : Int32) < 0 ∨ cl341.slots.size ≤ ((1 : Int32)).toNatClampNeg) := inb_of Sz341 ⟨by decide, by decide⟩
          have hat345 : cl341.slots[((1 : Int32)).toNatClampNeg]? = some (.int o1_284) := Has.at Hh341 hin345 rfl
          have hin346 : ¬ ((1 : Int32) < 0 ∨ cl343.slots.size ≤ ((1 : Int32)).toNatClampNeg) := inb_of Sz343 ⟨by decide, by decide⟩
          have hat346 : cl343.slots[((1 : Int32)).toNatClampNeg]? = some (.int (own_p 1 (own_h101 y) sn fq)) := Has.at Hh343 hin346 rfl
          have hin347 : ¬ ((2 : Int32) < 0 ∨ cl341.slots.size ≤ ((2 : Int32)).toNatClampNeg) := inb_of Sz341 ⟨by decide, by decide⟩
          have hat347 : cl341.slots[((2 : Int32)).toNatClampNeg]? = some (.int o2_284) := Has.at Hh341 hin347 rfl
          have hin348 : ¬ ((2 : Int32) < 0 ∨ cl343.slots.size ≤ ((2 : Int32)).toNatClampNeg) := inb_of Sz343 ⟨by decide, by decide⟩
          have hat348 : cl343.slots[((2 : Int32)).toNatClampNeg]? = some (.int (own_p 2 (own_h101 y) sn ma2)) := Has.at Hh343 hin348 rfl
          have Fc349 := (((((((Va281.keep P284_0 (ninS (Ne.symm (Nat.ne_of_lt (Nat.lt_of_lt_of_le Va267.lt (Nat.le_of_eq g269.symm)))) nin0)).ext E286).other W290 (Nat.ne_of_lt (Nat.lt_of_lt_of_le (Va281.keep P284_0 (ninS (Ne.symm (Nat.ne_of_lt (Nat.lt_of_lt_of_le Va267.lt (Nat.le_of_eq g269.symm)))) nin0)).lt (Nat.le_of_eq g286.symm)))).other W294 (Nat.ne_of_lt (Nat.lt_of_lt_of_le (Va281.keep P284_0 (ninS (Ne.symm (Nat.ne_of_lt (Nat.lt_of_lt_of_le Va267.lt (Nat.le_of_eq g269.symm)))) nin0)).lt (Nat.le_of_eq g286.symm)))).other W298 (Nat.ne_of_lt (Nat.lt_of_lt_of_le (Va281.keep P284_0 (ninS (Ne.symm (Nat.ne_of_lt (Nat.lt_of_lt_of_le Va267.lt (Nat.le_of_eq g269.symm)))) nin0)).lt (Nat.le_of_eq g286.symm)))).other W333 (Nat.ne_of_lt (Nat.lt_of_lt_of_le (Va281.keep P284_0 (ninS (Ne.symm (Nat.ne_of_lt (Nat.lt_of_lt_of_le Va267.lt (Nat.le_of_eq g269.symm)))) nin0)).lt (Nat.le_of_eq g286.symm)))).other W338 (Nat.ne_of_lt (Nat.lt_of_lt_of_le (Va281.keep P284_0 (ninS (Ne.symm (Nat.ne_of_lt (Nat.lt_of_lt_of_le Va267.lt (Nat.le_of_eq g269.symm)))) nin0)).lt (Nat.le_of_eq g286.symm))))
          obtain ⟨cl350, Ar350, qk350, Sz350, Nz350, Hh350, Gg350⟩ := id Fc349
          have hin351 : ¬ ((0 : Int32) < 0 ∨ cl350.slots.size ≤ ((0 : Int32)).toNatClampNeg) := inb_of Sz350 ⟨by decide, by decide⟩
          have hat351 : cl350.slots[((0 : Int32)).toNatClampNeg]? = some (.double (FP.i2d v0)) := Has.at Hh350 hin351 rfl
          have hin352 : ¬ ((1 : Int32) < 0 ∨ cl350.slots.size ≤ ((1 : Int32)).toNatClampNeg) := inb_of Sz350 ⟨by decide, by decide⟩
          have hat352 : cl350.slots[((1 : Int32)).toNatClampNeg]? = some (.double (FP.i2d v1)) := Has.at Hh350 hin352 rfl
          have hin353 : ¬ ((2 : Int32) < 0 ∨ cl350.slots.size ≤ ((2 : Int32)).toNatClampNeg) := inb_of Sz350 ⟨by decide, by decide⟩
          have hat353 : cl350.slots[((2 : Int32)).toNatClampNeg]? = some (.double (FP.i2d v2)) := Has.at Hh350 hin353 rfl
          obtain ⟨fs, hr, hrun, hended, hW, hsame⟩ := X338.leave (v := some (.int 1)) (fun h => by rw [Bd.returns] at h; cases h)
          refine ⟨_, _, pre0 _ (pre307 _ ?_), hrun, hended, _, _, rfl, ?_, ⟨_, rfl⟩, hW, hsame.mono (by decide) (by decide)⟩
          · show own_S p e below T306 m 252 #[oI p0, oI p1, oI p2, oI p3, oI p4, oI 3, oI ma0, oI ma1, oI ma2, oD (FP.i2d v0), oV, oD (FP.i2d v1), oV, oD (FP.i2d v2), oV, oR b255, oR b269, oI orr_284, oR b286, oI 0, oI fq, oI sn, oU, oU] [(.int (own_h111 x y z))] _
            refine reI (hwv : (own_h111 x y z) = (1 : Int32)) ?_
            show own_S p e below T306 m 252 _ [(.int 1)] _
            refine XS.istore X306.here hx rfl (hb hby at_252) rfl (l' := #[oI p0, oI p1, oI p2, oI p3, oI p4, oI 3, oI ma0, oI ma1, oI ma2, oD (FP.i2d v0), oV, oD (FP.i2d v1), oV, oD (FP.i2d v2), oV, oR b255, oR b269, oI orr_284, oR b286, oI 0, oI fq, oI sn, oI 1, oU]) rfl ?_
            show own_S p e below T306 m 254 #[oI p0, oI p1, oI p2, oI p3, oI p4, oI 3, oI ma0, oI ma1, oI ma2, oD (FP.i2d v0), oV, oD (FP.i2d v1), oV, oD (FP.i2d v2), oV, oR b255, oR b269, oI orr_284, oR b286, oI 0, oI fq, oI sn, oI 1, oU] [] _
            refine XS.aload X306.here hx rfl (hb hby at_254) rfl rfl ?_
            show own_S p e below T306 m 256 _ [(.ref b286)] _
            refine XS.iload X306.here hx rfl (hb hby at_256) rfl ?_
            show own_S p e below T306 m 258 _ [(.int 1), (.ref b286)] _
            refine XS.iload X306.here hx rfl (hb hby at_258) rfl ?_
            show own_S p e below T306 m 260 _ [(.int fq), (.int 1), (.ref b286)] _
            refine st333 _ ?_
            show own_S p e below T333 m 261 _ [] _
            refine XS.iload X333.here hx rfl (hb hby at_261) rfl ?_
            show own_S p e below T333 m 263 _ [(.int 1)] _
            refine XS.ifNo X333.here hx rfl (hb hby at_263) rfl ((if0 _ _).trans (feq (by decide : ¬ ((1 : Int32) = (0 : Int32)))).1) ?_
            show own_S p e below T333 m 266 _ [] _
            refine XS.iconst X333.here hx rfl (hb hby at_266) ?_
            show own_S p e below T333 m 267 #[oI p0, oI p1, oI p2, oI p3, oI p4, oI 3, oI ma0, oI ma1, oI ma2, oD (FP.i2d v0), oV, oD (FP.i2d v1), oV, oD (FP.i2d v2), oV, oR b255, oR b269, oI orr_284, oR b286, oI 0, oI fq, oI sn, oI 1, oU] [(.int 1)] _
            refine XS.goto X333.here hx rfl (pc0 := 267) (pc' := 271) rfl (hb hby at_267) (by decide) (by decide) ?_
            show own_S p e below T333 m 271 _ [(.int 1)] _
            refine XS.iload X333.here hx rfl (hb hby at_271) rfl ?_
            show own_S p e below T333 m 273 _ [(.int 1), (.int 1)] _
            refine XS.iconst X333.here hx rfl (hb hby at_273) ?_
            show own_S p e below T333 m 274 _ [(.int 1), (.int 1), (.int 1)] _
            refine XS.icmpYes X333.here hx rfl (pc0 := 274) (pc' := 281) rfl (hb hby at_274) rfl (teq (by decide : (1 : Int32) = (1 : Int32))).1 (by decide) (by decide) ?_
            show own_S p e below T333 m 281 _ [(.int 1)] _
            refine XS.iconst X333.here hx rfl (hb hby at_281) ?_
            show own_S p e below T333 m 282 _ [(.int 0), (.int 1)] _
            refine XS.iload X333.here hx rfl (hb hby at_282) rfl ?_
            show own_S p e below T333 m 284 _ [(.int 1), (.int 0), (.int 1)] _
            refine XS.iconst X333.here hx rfl (hb hby at_284) ?_
            show own_S p e below T333 m 285 #[oI p0, oI p1, oI p2, oI p3, oI p4, oI 3, oI ma0, oI ma1, oI ma2, oD (FP.i2d v0), oV, oD (FP.i2d v1), oV, oD (FP.i2d v2), oV, oR b255, oR b269, oI orr_284, oR b286, oI 0, oI fq, oI sn, oI 1, oU] [(.int 2), (.int 1), (.int 0), (.int 1)] _
            refine XS.icmpNo X333.here hx rfl (hb hby at_285) rfl (feq (by decide : ¬ ((1 : Int32) = (2 : Int32)))).1 ?_
            show own_S p e below T333 m 288 _ [(.int 0), (.int 1)] _
            refine XS.iconst X333.here hx rfl (hb hby at_288) ?_
            show own_S p e below T333 m 289 _ [(.int 1), (.int 0), (.int 1)] _
            refine XS.goto X333.here hx rfl (pc0 := 289) (pc' := 293) rfl (hb hby at_289) (by decide) (by decide) ?_
            show own_S p e below T333 m 293 _ [(.int 1), (.int 0), (.int 1)] _
            refine XS.dload X333.here hx rfl (hb hby at_293) rfl ?_
            show own_S p e below T333 m 295 _ [(.double (FP.i2d v0)), (.int 1), (.int 0), (.int 1)] _
            refine XS.dload X333.here hx rfl (hb hby at_295) rfl ?_
            show own_S p e below T333 m 297 _ [(.double (FP.i2d v1)), (.double (FP.i2d v0)), (.int 1), (.int 0), (.int 1)] _
            refine XS.dload X333.here hx rfl (hb hby at_297) rfl ?_
            show own_S p e below T333 m 299 _ [(.double (FP.i2d v2)), (.double (FP.i2d v1)), (.double (FP.i2d v0)), (.int 1), (.int 0), (.int 1)] _
            refine st335 _ ?_
            show own_S p e below T335 m 302 #[oI p0, oI p1, oI p2, oI p3, oI p4, oI 3, oI ma0, oI ma1, oI ma2, oD (FP.i2d v0), oV, oD (FP.i2d v1), oV, oD (FP.i2d v2), oV, oR b255, oR b269, oI orr_284, oR b286, oI 0, oI fq, oI sn, oI 1, oU] [(.int (own_h101 y))] _
            refine XS.istore X335.here hx rfl (hb hby at_302) rfl (l' := #[oI p0, oI p1, oI p2, oI p3, oI p4, oI 3, oI ma0, oI ma1, oI ma2, oD (FP.i2d v0), oV, oD (FP.i2d v1), oV, oD (FP.i2d v2), oV, oR b255, oR b269, oI orr_284, oR b286, oI 0, oI fq, oI sn, oI 1, oI (own_h101 y)]) rfl ?_
            show own_S p e below T335 m 304 #[oI p0, oI p1, oI p2, oI p3, oI p4, oI 3, oI ma0, oI ma1, oI ma2, oD (FP.i2d v0), oV, oD (FP.i2d v1), oV, oD (FP.i2d v2), oV, oR b255, oR b269, oI orr_284, oR b286, oI 0, oI fq, oI sn, oI 1, oI (own_h101 y)] [] _
            refine XS.aload X335.here hx rfl (hb hby at_304) rfl rfl ?_
            show own_S p e below T335 m 306 _ [(.ref b286)] _
            refine XS.iload X335.here hx rfl (hb hby at_306) rfl ?_
            show own_S p e below T335 m 308 _ [(.int (own_h101 y)), (.ref b286)] _
            refine XS.iload X335.here hx rfl (hb hby at_308) rfl ?_
            show own_S p e below T335 m 310 _ [(.int sn), (.int (own_h101 y)), (.ref b286)] _
            refine st338 _ ?_
            show own_S p e below T338 m 311 _ [] _
            refine XS.iconst X338.here hx rfl (hb hby at_311) ?_
            show own_S p e below T338 m 312 _ [(.int 1)] _
            refine XS.istore X338.here hx rfl (hb hby at_312) rfl (l' := #[oI p0, oI p1, oI p2, oI p3, oI p4, oI 3, oI ma0, oI ma1, oI ma2, oD (FP.i2d v0), oV, oD (FP.i2d v1), oV, oD (FP.i2d v2), oV, oR b255, oR b269, oI orr_284, oR b286, oI 1, oI fq, oI sn, oI 1, oI (own_h101 y)]) rfl ?_
            show own_S p e below T338 m 314 #[oI p0, oI p1, oI p2, oI p3, oI p4, oI 3, oI ma0, oI ma1, oI ma2, oD (FP.i2d v0), oV, oD (FP.i2d v1), oV, oD (FP.i2d v2), oV, oR b255, oR b269, oI orr_284, oR b286, oI 1, oI fq, oI sn, oI 1, oI (own_h101 y)] [] _
            refine XS.goto X338.here hx rfl (pc0 := 314) (pc' := 461) rfl (hb hby at_314) (by decide) (by decide) ?_
            show own_S p e below T338 m 461 _ [] _
            refine XS.iload X338.here hx rfl (hb hby at_461) rfl ?_
            show own_S p e below T338 m 463 _ [(.int orr_284)] _
            refine XS.iload X338.here hx rfl (hb hby at_463) rfl ?_
            show own_S p e below T338 m 465 _ [(.int 1), (.int orr_284)] _
            refine XS.icmpNo X338.here hx rfl (hb hby at_465) rfl (teq ((hPF.2.2.2.symm.trans hE.2.2.2) : orr_284 = (1 : Int32))).2 ?_
            show own_S p e below T338 m 468 _ [] _
            refine XS.aload X338.here hx rfl (hb hby at_468) rfl rfl ?_
            show own_S p e below T338 m 470 _ [(.ref b255)] _
            refine XS.iconst X338.here hx rfl (hb hby at_470) ?_
            show own_S p e below T338 m 471 _ [(.int 0), (.ref b255)] _
            refine X338.iaload hx (j := (0 : Int32)) (v := (.int o0_284)) (by rw [e338]; exact Ar341.1) (State.isArrayOf_alike hZ.alike Ar341.2.1) Ar341.2.2 hin342 hat342 (g := (mkF m 471 #[oI p0, oI p1, oI p2, oI p3, oI p4, oI 3, oI ma0, oI ma1, oI ma2, oD (FP.i2d v0), oV, oD (FP.i2d v1), oV, oD (FP.i2d v2), oV, oR b255, oR b269, oI orr_284, oR b286, oI 1, oI fq, oI sn, oI 1, oI (own_h101 y)] [(.int 0), (.ref b255)])) rfl rfl (hb hby at_471) _ ?_
            show own_S p e below T338 m 472 #[oI p0, oI p1, oI p2, oI p3, oI p4, oI 3, oI ma0, oI ma1, oI ma2, oD (FP.i2d v0), oV, oD (FP.i2d v1), oV, oD (FP.i2d v2), oV, oR b255, oR b269, oI orr_284, oR b286, oI 1, oI fq, oI sn, oI 1, oI (own_h101 y)] [(.int o0_284)] _
            refine XS.aload X338.here hx rfl (hb hby at_472) rfl rfl ?_
            show own_S p e below T338 m 474 _ [(.ref b286), (.int o0_284)] _
            refine XS.iconst X338.here hx rfl (hb hby at_474) ?_
            show own_S p e below T338 m 475 _ [(.int 0), (.ref b286), (.int o0_284)] _
            refine X338.iaload hx (j := (0 : Int32)) (v := (.int (own_p 0 (own_h101 y) sn ma0))) (by rw [e338]; exact Ar343.1) (State.isArrayOf_alike hZ.alike Ar343.2.1) Ar343.2.2 hin344 hat344 (g := (mkF m 475 #[oI p0, oI p1, oI p2, oI p3, oI p4, oI 3, oI ma0, oI ma1, oI ma2, oD (FP.i2d v0), oV, oD (FP.i2d v1), oV, oD (FP.i2d v2), oV, oR b255, oR b269, oI orr_284, oR b286, oI 1, oI fq, oI sn, oI 1, oI (own_h101 y)] [(.int 0), (.ref b286), (.int o0_284)])) rfl rfl (hb hby at_475) _ ?_
            show own_S p e below T338 m 476 _ [(.int (own_p 0 (own_h101 y) sn ma0)), (.int o0_284)] _
            refine XS.icmpNo X338.here hx rfl (hb hby at_476) rfl (teq ((by first | (rw [hfq, hsn]; exact (hPF.1.symm.trans hE.1)) | (rw [hsn]; exact (hPF.1.symm.trans hE.1))) : o0_284 = (own_p 0 (own_h101 y) sn ma0))).2 ?_
            show own_S p e below T338 m 479 _ [] _
            refine XS.aload X338.here hx rfl (hb hby at_479) rfl rfl ?_
            show own_S p e below T338 m 481 _ [(.ref b255)] _
            refine XS.iconst X338.here hx rfl (hb hby at_481) ?_
            show own_S p e below T338 m 482 _ [(.int 1), (.ref b255)] _
            refine X338.iaload hx (j := (1 : Int32)) (v := (.int o1_284)) (by rw [e338]; exact Ar341.1) (State.isArrayOf_alike hZ.alike Ar341.2.1) Ar341.2.2 hin345 hat345 (g := (mkF m 482 #[oI p0, oI p1, oI p2, oI p3, oI p4, oI 3, oI ma0, oI ma1, oI ma2, oD (FP.i2d v0), oV, oD (FP.i2d v1), oV, oD (FP.i2d v2), oV, oR b255, oR b269, oI orr_284, oR b286, oI 1, oI fq, oI sn, oI 1, oI (own_h101 y)] [(.int 1), (.ref b255)])) rfl rfl (hb hby at_482) _ ?_
            show own_S p e below T338 m 483 #[oI p0, oI p1, oI p2, oI p3, oI p4, oI 3, oI ma0, oI ma1, oI ma2, oD (FP.i2d v0), oV, oD (FP.i2d v1), oV, oD (FP.i2d v2), oV, oR b255, oR b269, oI orr_284, oR b286, oI 1, oI fq, oI sn, oI 1, oI (own_h101 y)] [(.int o1_284)] _
            refine XS.aload X338.here hx rfl (hb hby at_483) rfl rfl ?_
            show own_S p e below T338 m 485 _ [(.ref b286), (.int o1_284)] _
            refine XS.iconst X338.here hx rfl (hb hby at_485) ?_
            show own_S p e below T338 m 486 _ [(.int 1), (.ref b286), (.int o1_284)] _
            refine X338.iaload hx (j := (1 : Int32)) (v := (.int (own_p 1 (own_h101 y) sn fq))) (by rw [e338]; exact Ar343.1) (State.isArrayOf_alike hZ.alike Ar343.2.1) Ar343.2.2 hin346 hat346 (g := (mkF m 486 #[oI p0, oI p1, oI p2, oI p3, oI p4, oI 3, oI ma0, oI ma1, oI ma2, oD (FP.i2d v0), oV, oD (FP.i2d v1), oV, oD (FP.i2d v2), oV, oR b255, oR b269, oI orr_284, oR b286, oI 1, oI fq, oI sn, oI 1, oI (own_h101 y)] [(.int 1), (.ref b286), (.int o1_284)])) rfl rfl (hb hby at_486) _ ?_
            show own_S p e below T338 m 487 _ [(.int (own_p 1 (own_h101 y) sn fq)), (.int o1_284)] _
            refine XS.icmpNo X338.here hx rfl (hb hby at_487) rfl (teq ((by first | (rw [hfq, hsn]; exact (hPF.2.1.symm.trans hE.2.1)) | (rw [hsn]; exact (hPF.2.1.symm.trans hE.2.1))) : o1_284 = (own_p 1 (own_h101 y) sn fq))).2 ?_
            show own_S p e below T338 m 490 _ [] _
            refine XS.aload X338.here hx rfl (hb hby at_490) rfl rfl ?_
            show own_S p e below T338 m 492 _ [(.ref b255)] _
            refine XS.iconst X338.here hx rfl (hb hby at_492) ?_
            show own_S p e below T338 m 493 _ [(.int 2), (.ref b255)] _
            refine X338.iaload hx (j := (2 : Int32)) (v := (.int o2_284)) (by rw [e338]; exact Ar341.1) (State.isArrayOf_alike hZ.alike Ar341.2.1) Ar341.2.2 hin347 hat347 (g := (mkF m 493 #[oI p0, oI p1, oI p2, oI p3, oI p4, oI 3, oI ma0, oI ma1, oI ma2, oD (FP.i2d v0), oV, oD (FP.i2d v1), oV, oD (FP.i2d v2), oV, oR b255, oR b269, oI orr_284, oR b286, oI 1, oI fq, oI sn, oI 1, oI (own_h101 y)] [(.int 2), (.ref b255)])) rfl rfl (hb hby at_493) _ ?_
            show own_S p e below T338 m 494 #[oI p0, oI p1, oI p2, oI p3, oI p4, oI 3, oI ma0, oI ma1, oI ma2, oD (FP.i2d v0), oV, oD (FP.i2d v1), oV, oD (FP.i2d v2), oV, oR b255, oR b269, oI orr_284, oR b286, oI 1, oI fq, oI sn, oI 1, oI (own_h101 y)] [(.int o2_284)] _
            refine XS.aload X338.here hx rfl (hb hby at_494) rfl rfl ?_
            show own_S p e below T338 m 496 _ [(.ref b286), (.int o2_284)] _
            refine XS.iconst X338.here hx rfl (hb hby at_496) ?_
            show own_S p e below T338 m 497 _ [(.int 2), (.ref b286), (.int o2_284)] _
            refine X338.iaload hx (j := (2 : Int32)) (v := (.int (own_p 2 (own_h101 y) sn ma2))) (by rw [e338]; exact Ar343.1) (State.isArrayOf_alike hZ.alike Ar343.2.1) Ar343.2.2 hin348 hat348 (g := (mkF m 497 #[oI p0, oI p1, oI p2, oI p3, oI p4, oI 3, oI ma0, oI ma1, oI ma2, oD (FP.i2d v0), oV, oD (FP.i2d v1), oV, oD (FP.i2d v2), oV, oR b255, oR b269, oI orr_284, oR b286, oI 1, oI fq, oI sn, oI 1, oI (own_h101 y)] [(.int 2), (.ref b286), (.int o2_284)])) rfl rfl (hb hby at_497) _ ?_
            show own_S p e below T338 m 498 _ [(.int (own_p 2 (own_h101 y) sn ma2)), (.int o2_284)] _
            refine XS.icmpNo X338.here hx rfl (hb hby at_498) rfl (teq ((by first | (rw [hfq, hsn]; exact (hPF.2.2.1.symm.trans hE.2.2.1)) | (rw [hsn]; exact (hPF.2.2.1.symm.trans hE.2.2.1))) : o2_284 = (own_p 2 (own_h101 y) sn ma2))).2 ?_
            show own_S p e below T338 m 501 _ [] _
            refine XS.aload X338.here hx rfl (hb hby at_501) rfl rfl ?_
            show own_S p e below T338 m 503 _ [(.ref b269)] _
            refine XS.iconst X338.here hx rfl (hb hby at_503) ?_
            show own_S p e below T338 m 504 _ [(.int 0), (.ref b269)] _
            refine X338.daload hx (j := (0 : Int32)) (v := (.double (FP.i2d v0))) (by rw [e338]; exact Ar350.1) (State.isArrayOf_alike hZ.alike Ar350.2.1) Ar350.2.2 hin351 hat351 (g := (mkF m 504 #[oI p0, oI p1, oI p2, oI p3, oI p4, oI 3, oI ma0, oI ma1, oI ma2, oD (FP.i2d v0), oV, oD (FP.i2d v1), oV, oD (FP.i2d v2), oV, oR b255, oR b269, oI orr_284, oR b286, oI 1, oI fq, oI sn, oI 1, oI (own_h101 y)] [(.int 0), (.ref b269)])) rfl rfl (hb hby at_504) _ ?_
            show own_S p e below T338 m 505 #[oI p0, oI p1, oI p2, oI p3, oI p4, oI 3, oI ma0, oI ma1, oI ma2, oD (FP.i2d v0), oV, oD (FP.i2d v1), oV, oD (FP.i2d v2), oV, oR b255, oR b269, oI orr_284, oR b286, oI 1, oI fq, oI sn, oI 1, oI (own_h101 y)] [(.double (FP.i2d v0))] _
            refine XS.dload X338.here hx rfl (hb hby at_505) rfl ?_
            show own_S p e below T338 m 507 _ [(.double (FP.i2d v0)), (.double (FP.i2d v0))] _
            refine XS.dcmpS X338.here hx rfl (v := (0 : Int32)) (hb hby at_507) rfl (own_ieq (FP.Core.i2d_int v0) (FP.Core.i2d_int v0) rfl .l) ?_
            show own_S p e below T338 m 508 _ [(.int 0)] _
            refine XS.ifNo X338.here hx rfl (hb hby at_508) rfl ((if0 _ _).trans (teq (by decide : (0 : Int32) = (0 : Int32))).2) ?_
            show own_S p e below T338 m 511 _ [] _
            refine XS.aload X338.here hx rfl (hb hby at_511) rfl rfl ?_
            show own_S p e below T338 m 513 _ [(.ref b269)] _
            refine XS.iconst X338.here hx rfl (hb hby at_513) ?_
            show own_S p e below T338 m 514 _ [(.int 1), (.ref b269)] _
            refine X338.daload hx (j := (1 : Int32)) (v := (.double (FP.i2d v1))) (by rw [e338]; exact Ar350.1) (State.isArrayOf_alike hZ.alike Ar350.2.1) Ar350.2.2 hin352 hat352 (g := (mkF m 514 #[oI p0, oI p1, oI p2, oI p3, oI p4, oI 3, oI ma0, oI ma1, oI ma2, oD (FP.i2d v0), oV, oD (FP.i2d v1), oV, oD (FP.i2d v2), oV, oR b255, oR b269, oI orr_284, oR b286, oI 1, oI fq, oI sn, oI 1, oI (own_h101 y)] [(.int 1), (.ref b269)])) rfl rfl (hb hby at_514) _ ?_
            show own_S p e below T338 m 515 _ [(.double (FP.i2d v1))] _
            refine XS.dload X338.here hx rfl (hb hby at_515) rfl ?_
            show own_S p e below T338 m 517 #[oI p0, oI p1, oI p2, oI p3, oI p4, oI 3, oI ma0, oI ma1, oI ma2, oD (FP.i2d v0), oV, oD (FP.i2d v1), oV, oD (FP.i2d v2), oV, oR b255, oR b269, oI orr_284, oR b286, oI 1, oI fq, oI sn, oI 1, oI (own_h101 y)] [(.double (FP.i2d v1)), (.double (FP.i2d v1))] _
            refine XS.dcmpS X338.here hx rfl (v := (0 : Int32)) (hb hby at_517) rfl (own_ieq (FP.Core.i2d_int v1) (FP.Core.i2d_int v1) rfl .l) ?_
            show own_S p e below T338 m 518 _ [(.int 0)] _
            refine XS.ifNo X338.here hx rfl (hb hby at_518) rfl ((if0 _ _).trans (teq (by decide : (0 : Int32) = (0 : Int32))).2) ?_
            show own_S p e below T338 m 521 _ [] _
            refine XS.aload X338.here hx rfl (hb hby at_521) rfl rfl ?_
            show own_S p e below T338 m 523 _ [(.ref b269)] _
            refine XS.iconst X338.here hx rfl (hb hby at_523) ?_
            show own_S p e below T338 m 524 _ [(.int 2), (.ref b269)] _
            refine X338.daload hx (j := (2 : Int32)) (v := (.double (FP.i2d v2))) (by rw [e338]; exact Ar350.1) (State.isArrayOf_alike hZ.alike Ar350.2.1) Ar350.2.2 hin353 hat353 (g := (mkF m 524 #[oI p0, oI p1, oI p2, oI p3, oI p4, oI 3, oI ma0, oI ma1, oI ma2, oD (FP.i2d v0), oV, oD (FP.i2d v1), oV, oD (FP.i2d v2), oV, oR b255, oR b269, oI orr_284, oR b286, oI 1, oI fq, oI sn, oI 1, oI (own_h101 y)] [(.int 2), (.ref b269)])) rfl rfl (hb hby at_524) _ ?_
            show own_S p e below T338 m 525 _ [(.double (FP.i2d v2))] _
            refine XS.dload X338.here hx rfl (hb hby at_525) rfl ?_
            show own_S p e below T338 m 527 _ [(.double (FP.i2d v2)), (.double (FP.i2d v2))] _
            refine XS.dcmpS X338.here hx rfl (v := (0 : Int32)) (hb hby at_527) rfl (own_ieq (FP.Core.i2d_int v2) (FP.Core.i2d_int v2) rfl .l) ?_
            show own_S p e below T338 m 528 #[oI p0, oI p1, oI p2, oI p3, oI p4, oI 3, oI ma0, oI ma1, oI ma2, oD (FP.i2d v0), oV, oD (FP.i2d v1), oV, oD (FP.i2d v2), oV, oR b255, oR b269, oI orr_284, oR b286, oI 1, oI fq, oI sn, oI 1, oI (own_h101 y)] [(.int 0)] _
            refine XS.ifNo X338.here hx rfl (hb hby at_528) rfl ((if0 _ _).trans (teq (by decide : (0 : Int32) = (0 : Int32))).2) ?_
            show own_S p e below T338 m 531 _ [] _
            refine XS.iconst X338.here hx rfl (hb hby at_531) ?_
            show own_S p e below T338 m 532 _ [(.int 1)] _
            refine XS.goto X338.here hx rfl (pc0 := 532) (pc' := 536) rfl (hb hby at_532) (by decide) (by decide) ?_
            show own_S p e below T338 m 536 _ [(.int 1)] _
            exact retN X338 hx (t := .boolean) Bd.returns (by simp) (hb hby at_536) hr
          · show Qm0 Z p0 p1 p2 p3 p4 h0 n0 _ T338.heap _
            rw [e338]
            exact ⟨rfl, N338⟩
        · skip
          obtain ⟨cl354, Ar354, qk354, Sz354, Nz354, Hh354, Gg354⟩ := id Va298
          have hin355 : ¬ ((2 : Int32) < 0 ∨ cl354.slots.size ≤ ((2 : Int32)).toNatClampNeg) := inb_of Sz354 ⟨by decide, by decide⟩
          obtain ⟨T356, h356, X356, e356, W356, st356⟩ := stI X306 hx hZ P306_0 Ar354 (j := (2 : Int32)) hin355 (g := (mkF m 260 #[oI p0, oI p1, oI p2, oI p3, oI p4, oI 3, oI ma0, oI ma1, oI ma2, oD (FP.i2d v0), oV, oD (FP.i2d v1), oV, oD (FP.i2d v2), oV, oR b255, oR b269, oI orr_284, oR b286, oI 0, oI fq, oI sn, oI 2, oU] [(.int fq), (.int 2), (.ref b286)])) rfl rfl (hb hby at_260)
          have Va356 := Arv.set Ar354 qk354 Sz354 Nz354 Hh354 Gg354 rfl W356 2 rfl (Nat.le_of_ble_eq_true rfl)
          have N356 := Fr.snoc X356 N306 g_b286
          have ZZ357 : n0 ≤ h356.size := Nat.le_trans ZZ299 (Nat.le_of_eq W356.size.symm)
          obtain ⟨_, _, ⟨T358, L358, k358, n358⟩, -, X358, ⟨Lc358, hQ358, l358, y358, z358⟩, st358⟩ := Jvm.LawKit.callS X356 hx (y := (⟨"com/example/metasearch/metasearch/EmptyClustersFillPinLaw", "worst", "(ZZZDDD)I"⟩ : MethodName)) hown (mvT hZ (own_w hw 7 rfl)) (mvT hZ (own_w hw 8 rfl)) (mvT hZ (own_w hw 9 rfl)) (mvT hZ (own_w hw 10 rfl)) (by decide) (backOf (W := 0) (rmw110 l Z a0 hw [] (FP.i2d v0) (FP.i2d v1) (FP.i2d v2) x y z h356 n0 ZZ357 gx gy gz lx) hZ (own_w hw 10 rfl) (own_w hw 9 rfl) (by decide) (by decide)) (g := (mkF m 299 #[oI p0, oI p1, oI p2, oI p3, oI p4, oI 3, oI ma0, oI ma1, oI ma2, oD (FP.i2d v0), oV, oD (FP.i2d v1), oV, oD (FP.i2d v2), oV, oR b255, oR b269, oI orr_284, oR b286, oI 0, oI fq, oI sn, oI 2, oU] [(.double (FP.i2d v2)), (.double (FP.i2d v1)), (.double (FP.i2d v0)), (.int 0), (.int 1), (.int 1)])) rfl (by rw [hml]; rfl) (argsL := [(.int 1), (.int 1), (.int 0), (.double (FP.i2d v0)), (.double (FP.i2d v1)), (.double (FP.i2d v2))]) (rest := []) (lenOf pd1 rfl) rfl (by show 2 * 0 + _ ≤ _; exact Nat.le_of_eq rfl) (hb hby at_299) (fun _ _ => ⟨rfl, e356, (by decide : 4 + 0 ≤ _), (by decide : 12 + 0 ≤ _)⟩)
          dsimp only [Pt.U, Pt.locs, Pt.cells, Pt.slots] at X358 l358 y358 z358 st358 hQ358
          subst l358 y358 z358
          obtain ⟨rfl, Nq358, P358_0⟩ := hQ358
          have N358 := Fr.app N356 Nq358
          obtain ⟨cl359, Ar359, qk359, Sz359, Nz359, Hh359, Gg359⟩ := id Va356
          have hin360 : ¬ ((own_h110 x) < 0 ∨ cl359.slots.size ≤ ((own_h110 x)).toNatClampNeg) := inb_of Sz359 (own_b3 (own_h110r x))
          obtain ⟨T361, h361, X361, e361, W361, st361⟩ := stI X358 hx hZ P358_0 Ar359 (j := (own_h110 x)) hin360 (g := (mkF m 310 #[oI p0, oI p1, oI p2, oI p3, oI p4, oI 3, oI ma0, oI ma1, oI ma2, oD (FP.i2d v0), oV, oD (FP.i2d v1), oV, oD (FP.i2d v2), oV, oR b255, oR b269, oI orr_284, oR b286, oI 0, oI fq, oI sn, oI 2, oI (own_h110 x)] [(.int sn), (.int (own_h110 x)), (.ref b286)])) rfl rfl (hb hby at_310)
          have Va361 := Arv.set Ar359 qk359 Sz359 Nz359 Hh359 Gg359 rfl W361 ((own_h110 x)).toNatClampNeg rfl (own_l3 (own_h110r x))
          have Vs361 : Arv Z h361 b286 k286 .int (3 : Int32) [(.int (own_p 0 (own_h110 x) sn ma0)), (.int (own_p 1 (own_h110 x) sn ma1)), (.int (own_p 2 (own_h110 x) sn fq))] (.int 0) := by rw [← (own_s3 (own_h110r x) : ([(.int ma0), (.int ma1), (.int fq)] : List Value).set ((own_h110 x)).toNatClampNeg (.int sn) = [(.int (own_p 0 (own_h110 x) sn ma0)), (.int (own_p 1 (own_h110 x) sn ma1)), (.int (own_p 2 (own_h110 x) sn fq))])]; exact Va361
          have N361 := Fr.snoc X361 N358 g_b286
          have ZZ362 : n0 ≤ h361.size := Nat.le_trans ZZ357 (Nat.le_of_eq W361.size.symm)
          have hE := own_E3e2 x y z ra0 ra1 ra2 e01 e12 hwv
          have Fc363 := ((((((P284_1.ext E286).other W290 (Nat.ne_of_lt (Nat.lt_of_lt_of_le P284_1.lt (Nat.le_of_eq g286.symm)))).other W294 (Nat.ne_of_lt (Nat.lt_of_lt_of_le P284_1.lt (Nat.le_of_eq g286.symm)))).other W298 (Nat.ne_of_lt (Nat.lt_of_lt_of_le P284_1.lt (Nat.le_of_eq g286.symm)))).other W356 (Nat.ne_of_lt (Nat.lt_of_lt_of_le P284_1.lt (Nat.le_of_eq g286.symm)))).other W361 (Nat.ne_of_lt (Nat.lt_of_lt_of_le P284_1.lt (Nat.le_of_eq g286.symm))))
          obtain ⟨cl364, Ar364, qk364, Sz364, Nz364, Hh364, Gg364⟩ := id Fc363
          have hin365 : ¬ ((0 : Int32) < 0 ∨ cl364.slots.size ≤ ((0 : Int32)).toNatClampNeg) := inb_of Sz364 ⟨by decide, by decide⟩
          have hat365 : cl364.slots[((0 : Int32)).toNatClampNeg]? = some (.int o0_284) := Has.at Hh364 hin365 rfl
          obtain ⟨cl366, Ar366, qk366, Sz366, Nz366, Hh366, Gg366⟩ := id Vs361
          have hin367 : ¬ ((0 : Int32) < 0 ∨ cl366.slots.size ≤ ((0 : Int32)).toNatClampNeg) := inb_of Sz366 ⟨by decide, by decide⟩
          have hat367 : cl366.slots[((0 : Int32)).toNatClampNeg]? = some (.int (own_p 0 (own_h110 x) sn ma0)) := Has.at Hh366 hin367 rfl
          have hin368 : ¬ ((1 : Int32) < 0 ∨ cl364.slots.size ≤ ((1 : Int32)).toNatClampNeg) := inb_of Sz364 ⟨by decide, by decide⟩
          have hat368 : cl364.slots[((1 : Int32)).toNatClampNeg]? = some (.int o1_284) := Has.at Hh364 hin368 rfl
          have hin369 : ¬ ((1 : Int32) < 0 ∨ cl366.slots.size ≤ ((1 : Int32)).toNatClampNeg) := inb_of Sz366 ⟨by decide, by decide⟩
          have hat369 : cl366.slots[((1 : Int32)).toNatClampNeg]? = some (.int (own_p 1 (own_h110 x) sn ma1)) := Has.at Hh366 hin369 rfl
          have hin370 : ¬ ((2 : Int32) < 0 ∨ cl364.slots.size ≤ ((2 : Int32)).toNatClampNeg) := inb_of Sz364 ⟨by decide, by decide⟩
          have hat370 : cl364.slots[((2 : Int32)).toNatClampNeg]? = some (.int o2_284) := Has.at Hh364 hin370 rfl
          have hin371 : ¬ ((2 : Int32) < 0 ∨ cl366.slots.size ≤ ((2 : Int32)).toNatClampNeg) := inb_of Sz366 ⟨by decide, by decide⟩
          have hat371 : cl366.slots[((2 : Int32)).toNatClampNeg]? = some (.int (own_p 2 (own_h110 x) sn fq)) := Has.at Hh366 hin371 rfl
          have Fc372 := (((((((Va281.keep P284_0 (ninS (Ne.symm (Nat.ne_of_lt (Nat.lt_of_lt_of_le Va267.lt (Nat.le_of_eq g269.symm)))) nin0)).ext E286).other W290 (Nat.ne_of_lt (Nat.lt_of_lt_of_le (Va281.keep P284_0 (ninS (Ne.symm (Nat.ne_of_lt (Nat.lt_of_lt_of_le Va267.lt (Nat.le_of_eq g269.symm)))) nin0)).lt (Nat.le_of_eq g286.symm)))).other W294 (Nat.ne_of_lt (Nat.lt_of_lt_of_le (Va281.keep P284_0 (ninS (Ne.symm (Nat.ne_of_lt (Nat.lt_of_lt_of_le Va267.lt (Nat.le_of_eq g269.symm)))) nin0)).lt (Nat.le_of_eq g286.symm)))).other W298 (Nat.ne_of_lt (Nat.lt_of_lt_of_le (Va281.keep P284_0 (ninS (Ne.symm (Nat.ne_of_lt (Nat.lt_of_lt_of_le Va267.lt (Nat.le_of_eq g269.symm)))) nin0)).lt (Nat.le_of_eq g286.symm)))).other W356 (Nat.ne_of_lt (Nat.lt_of_lt_of_le (Va281.keep P284_0 (ninS (Ne.symm (Nat.ne_of_lt (Nat.lt_of_lt_of_le Va267.lt (Nat.le_of_eq g269.symm)))) nin0)).lt (Nat.le_of_eq g286.symm)))).other W361 (Nat.ne_of_lt (Nat.lt_of_lt_of_le (Va281.keep P284_0 (ninS (Ne.symm (Nat.ne_of_lt (Nat.lt_of_lt_of_le Va267.lt (Nat.le_of_eq g269.symm)))) nin0)).lt (Nat.le_of_eq g286.symm))))
          obtain ⟨cl373, Ar373, qk373, Sz373, Nz373, Hh373, Gg373⟩ := id Fc372
          have hin374 : ¬ ((0 : Int32) < 0 ∨ cl373.slots.size ≤ ((0 : Int32)).toNatClampNeg) := inb_of Sz373 ⟨by decide, by decide⟩
          have hat374 : cl373.slots[((0 : Int32)).toNatClampNeg]? = some (.double (FP.i2d v0)) := Has.at Hh373 hin374 rfl
          have hin375 : ¬ ((1 : Int32) < 0 ∨ cl373.slots.size ≤ ((1 : Int32)).toNatClampNeg) := inb_of Sz373 ⟨by decide, by decide⟩
          have hat375 : cl373.slots[((1 : Int32)).toNatClampNeg]? = some (.double (FP.i2d v1)) := Has.at Hh373 hin375 rfl
          have hin376 : ¬ ((2 : Int32) < 0 ∨ cl373.slots.size ≤ ((2 : Int32)).toNatClampNeg) := inb_of Sz373 ⟨by decide, by decide⟩
          have hat376 : cl373.slots[((2 : Int32)).toNatClampNeg]? = some (.double (FP.i2d v2)) := Has.at Hh373 hin376 rfl
          obtain ⟨fs, hr, hrun, hended, hW, hsame⟩ := X361.leave (v := some (.int 1)) (fun h => by rw [Bd.returns] at h; cases h)
          refine ⟨_, _, pre0 _ (pre307 _ ?_), hrun, hended, _, _, rfl, ?_, ⟨_, rfl⟩, hW, hsame.mono (by decide) (by decide)⟩
          · show own_S p e below T306 m 252 #[oI p0, oI p1, oI p2, oI p3, oI p4, oI 3, oI ma0, oI ma1, oI ma2, oD (FP.i2d v0), oV, oD (FP.i2d v1), oV, oD (FP.i2d v2), oV, oR b255, oR b269, oI orr_284, oR b286, oI 0, oI fq, oI sn, oU, oU] [(.int (own_h111 x y z))] _
            refine reI (hwv : (own_h111 x y z) = (2 : Int32)) ?_
            show own_S p e below T306 m 252 _ [(.int 2)] _
            refine XS.istore X306.here hx rfl (hb hby at_252) rfl (l' := #[oI p0, oI p1, oI p2, oI p3, oI p4, oI 3, oI ma0, oI ma1, oI ma2, oD (FP.i2d v0), oV, oD (FP.i2d v1), oV, oD (FP.i2d v2), oV, oR b255, oR b269, oI orr_284, oR b286, oI 0, oI fq, oI sn, oI 2, oU]) rfl ?_
            show own_S p e below T306 m 254 #[oI p0, oI p1, oI p2, oI p3, oI p4, oI 3, oI ma0, oI ma1, oI ma2, oD (FP.i2d v0), oV, oD (FP.i2d v1), oV, oD (FP.i2d v2), oV, oR b255, oR b269, oI orr_284, oR b286, oI 0, oI fq, oI sn, oI 2, oU] [] _
            refine XS.aload X306.here hx rfl (hb hby at_254) rfl rfl ?_
            show own_S p e below T306 m 256 _ [(.ref b286)] _
            refine XS.iload X306.here hx rfl (hb hby at_256) rfl ?_
            show own_S p e below T306 m 258 _ [(.int 2), (.ref b286)] _
            refine XS.iload X306.here hx rfl (hb hby at_258) rfl ?_
            show own_S p e below T306 m 260 _ [(.int fq), (.int 2), (.ref b286)] _
            refine st356 _ ?_
            show own_S p e below T356 m 261 _ [] _
            refine XS.iload X356.here hx rfl (hb hby at_261) rfl ?_
            show own_S p e below T356 m 263 _ [(.int 2)] _
            refine XS.ifNo X356.here hx rfl (hb hby at_263) rfl ((if0 _ _).trans (feq (by decide : ¬ ((2 : Int32) = (0 : Int32)))).1) ?_
            show own_S p e below T356 m 266 _ [] _
            refine XS.iconst X356.here hx rfl (hb hby at_266) ?_
            show own_S p e below T356 m 267 #[oI p0, oI p1, oI p2, oI p3, oI p4, oI 3, oI ma0, oI ma1, oI ma2, oD (FP.i2d v0), oV, oD (FP.i2d v1), oV, oD (FP.i2d v2), oV, oR b255, oR b269, oI orr_284, oR b286, oI 0, oI fq, oI sn, oI 2, oU] [(.int 1)] _
            refine XS.goto X356.here hx rfl (pc0 := 267) (pc' := 271) rfl (hb hby at_267) (by decide) (by decide) ?_
            show own_S p e below T356 m 271 _ [(.int 1)] _
            refine XS.iload X356.here hx rfl (hb hby at_271) rfl ?_
            show own_S p e below T356 m 273 _ [(.int 2), (.int 1)] _
            refine XS.iconst X356.here hx rfl (hb hby at_273) ?_
            show own_S p e below T356 m 274 _ [(.int 1), (.int 2), (.int 1)] _
            refine XS.icmpNo X356.here hx rfl (hb hby at_274) rfl (feq (by decide : ¬ ((2 : Int32) = (1 : Int32)))).1 ?_
            show own_S p e below T356 m 277 _ [(.int 1)] _
            refine XS.iconst X356.here hx rfl (hb hby at_277) ?_
            show own_S p e below T356 m 278 _ [(.int 1), (.int 1)] _
            refine XS.goto X356.here hx rfl (pc0 := 278) (pc' := 282) rfl (hb hby at_278) (by decide) (by decide) ?_
            show own_S p e below T356 m 282 _ [(.int 1), (.int 1)] _
            refine XS.iload X356.here hx rfl (hb hby at_282) rfl ?_
            show own_S p e below T356 m 284 #[oI p0, oI p1, oI p2, oI p3, oI p4, oI 3, oI ma0, oI ma1, oI ma2, oD (FP.i2d v0), oV, oD (FP.i2d v1), oV, oD (FP.i2d v2), oV, oR b255, oR b269, oI orr_284, oR b286, oI 0, oI fq, oI sn, oI 2, oU] [(.int 2), (.int 1), (.int 1)] _
            refine XS.iconst X356.here hx rfl (hb hby at_284) ?_
            show own_S p e below T356 m 285 _ [(.int 2), (.int 2), (.int 1), (.int 1)] _
            refine XS.icmpYes X356.here hx rfl (pc0 := 285) (pc' := 292) rfl (hb hby at_285) rfl (teq (by decide : (2 : Int32) = (2 : Int32))).1 (by decide) (by decide) ?_
            show own_S p e below T356 m 292 _ [(.int 1), (.int 1)] _
            refine XS.iconst X356.here hx rfl (hb hby at_292) ?_
            show own_S p e below T356 m 293 _ [(.int 0), (.int 1), (.int 1)] _
            refine XS.dload X356.here hx rfl (hb hby at_293) rfl ?_
            show own_S p e below T356 m 295 _ [(.double (FP.i2d v0)), (.int 0), (.int 1), (.int 1)] _
            refine XS.dload X356.here hx rfl (hb hby at_295) rfl ?_
            show own_S p e below T356 m 297 _ [(.double (FP.i2d v1)), (.double (FP.i2d v0)), (.int 0), (.int 1), (.int 1)] _
            refine XS.dload X356.here hx rfl (hb hby at_297) rfl ?_
            show own_S p e below T356 m 299 _ [(.double (FP.i2d v2)), (.double (FP.i2d v1)), (.double (FP.i2d v0)), (.int 0), (.int 1), (.int 1)] _
            refine st358 _ ?_
            show own_S p e below T358 m 302 #[oI p0, oI p1, oI p2, oI p3, oI p4, oI 3, oI ma0, oI ma1, oI ma2, oD (FP.i2d v0), oV, oD (FP.i2d v1), oV, oD (FP.i2d v2), oV, oR b255, oR b269, oI orr_284, oR b286, oI 0, oI fq, oI sn, oI 2, oU] [(.int (own_h110 x))] _
            refine XS.istore X358.here hx rfl (hb hby at_302) rfl (l' := #[oI p0, oI p1, oI p2, oI p3, oI p4, oI 3, oI ma0, oI ma1, oI ma2, oD (FP.i2d v0), oV, oD (FP.i2d v1), oV, oD (FP.i2d v2), oV, oR b255, oR b269, oI orr_284, oR b286, oI 0, oI fq, oI sn, oI 2, oI (own_h110 x)]) rfl ?_
            show own_S p e below T358 m 304 #[oI p0, oI p1, oI p2, oI p3, oI p4, oI 3, oI ma0, oI ma1, oI ma2, oD (FP.i2d v0), oV, oD (FP.i2d v1), oV, oD (FP.i2d v2), oV, oR b255, oR b269, oI orr_284, oR b286, oI 0, oI fq, oI sn, oI 2, oI (own_h110 x)] [] _
            refine XS.aload X358.here hx rfl (hb hby at_304) rfl rfl ?_
            show own_S p e below T358 m 306 _ [(.ref b286)] _
            refine XS.iload X358.here hx rfl (hb hby at_306) rfl ?_
            show own_S p e below T358 m 308 _ [(.int (own_h110 x)), (.ref b286)] _
            refine XS.iload X358.here hx rfl (hb hby at_308) rfl ?_
            show own_S p e below T358 m 310 _ [(.int sn), (.int (own_h110 x)), (.ref b286)] _
            refine st361 _ ?_
            show own_S p e below T361 m 311 _ [] _
            refine XS.iconst X361.here hx rfl (hb hby at_311) ?_
            show own_S p e below T361 m 312 _ [(.int 1)] _
            refine XS.istore X361.here hx rfl (hb hby at_312) rfl (l' := #[oI p0, oI p1, oI p2, oI p3, oI p4, oI 3, oI ma0, oI ma1, oI ma2, oD (FP.i2d v0), oV, oD (FP.i2d v1), oV, oD (FP.i2d v2), oV, oR b255, oR b269, oI orr_284, oR b286, oI 1, oI fq, oI sn, oI 2, oI (own_h110 x)]) rfl ?_
            show own_S p e below T361 m 314 #[oI p0, oI p1, oI p2, oI p3, oI p4, oI 3, oI ma0, oI ma1, oI ma2, oD (FP.i2d v0), oV, oD (FP.i2d v1), oV, oD (FP.i2d v2), oV, oR b255, oR b269, oI orr_284, oR b286, oI 1, oI fq, oI sn, oI 2, oI (own_h110 x)] [] _
            refine XS.goto X361.here hx rfl (pc0 := 314) (pc' := 461) rfl (hb hby at_314) (by decide) (by decide) ?_
            show own_S p e below T361 m 461 _ [] _
            refine XS.iload X361.here hx rfl (hb hby at_461) rfl ?_
            show own_S p e below T361 m 463 _ [(.int orr_284)] _
            refine XS.iload X361.here hx rfl (hb hby at_463) rfl ?_
            show own_S p e below T361 m 465 _ [(.int 1), (.int orr_284)] _
            refine XS.icmpNo X361.here hx rfl (hb hby at_465) rfl (teq ((hPF.2.2.2.symm.trans hE.2.2.2) : orr_284 = (1 : Int32))).2 ?_
            show own_S p e below T361 m 468 _ [] _
            refine XS.aload X361.here hx rfl (hb hby at_468) rfl rfl ?_
            show own_S p e below T361 m 470 _ [(.ref b255)] _
            refine XS.iconst X361.here hx rfl (hb hby at_470) ?_
            show own_S p e below T361 m 471 _ [(.int 0), (.ref b255)] _
            refine X361.iaload hx (j := (0 : Int32)) (v := (.int o0_284)) (by rw [e361]; exact Ar364.1) (State.isArrayOf_alike hZ.alike Ar364.2.1) Ar364.2.2 hin365 hat365 (g := (mkF m 471 #[oI p0, oI p1, oI p2, oI p3, oI p4, oI 3, oI ma0, oI ma1, oI ma2, oD (FP.i2d v0), oV, oD (FP.i2d v1), oV, oD (FP.i2d v2), oV, oR b255, oR b269, oI orr_284, oR b286, oI 1, oI fq, oI sn, oI 2, oI (own_h110 x)] [(.int 0), (.ref b255)])) rfl rfl (hb hby at_471) _ ?_
            show own_S p e below T361 m 472 #[oI p0, oI p1, oI p2, oI p3, oI p4, oI 3, oI ma0, oI ma1, oI ma2, oD (FP.i2d v0), oV, oD (FP.i2d v1), oV, oD (FP.i2d v2), oV, oR b255, oR b269, oI orr_284, oR b286, oI 1, oI fq, oI sn, oI 2, oI (own_h110 x)] [(.int o0_284)] _
            refine XS.aload X361.here hx rfl (hb hby at_472) rfl rfl ?_
            show own_S p e below T361 m 474 _ [(.ref b286), (.int o0_284)] _
            refine XS.iconst X361.here hx rfl (hb hby at_474) ?_
            show own_S p e below T361 m 475 _ [(.int 0), (.ref b286), (.int o0_284)] _
            refine X361.iaload hx (j := (0 : Int32)) (v := (.int (own_p 0 (own_h110 x) sn ma0))) (by rw [e361]; exact Ar366.1) (State.isArrayOf_alike hZ.alike Ar366.2.1) Ar366.2.2 hin367 hat367 (g := (mkF m 475 #[oI p0, oI p1, oI p2, oI p3, oI p4, oI 3, oI ma0, oI ma1, oI ma2, oD (FP.i2d v0), oV, oD (FP.i2d v1), oV, oD (FP.i2d v2), oV, oR b255, oR b269, oI orr_284, oR b286, oI 1, oI fq, oI sn, oI 2, oI (own_h110 x)] [(.int 0), (.ref b286), (.int o0_284)])) rfl rfl (hb hby at_475) _ ?_
            show own_S p e below T361 m 476 _ [(.int (own_p 0 (own_h110 x) sn ma0)), (.int o0_284)] _
            refine XS.icmpNo X361.here hx rfl (hb hby at_476) rfl (teq ((by first | (rw [hfq, hsn]; exact (hPF.1.symm.trans hE.1)) | (rw [hsn]; exact (hPF.1.symm.trans hE.1))) : o0_284 = (own_p 0 (own_h110 x) sn ma0))).2 ?_
            show own_S p e below T361 m 479 _ [] _
            refine XS.aload X361.here hx rfl (hb hby at_479) rfl rfl ?_
            show own_S p e below T361 m 481 _ [(.ref b255)] _
            refine XS.iconst X361.here hx rfl (hb hby at_481) ?_
            show own_S p e below T361 m 482 _ [(.int 1), (.ref b255)] _
            refine X361.iaload hx (j := (1 : Int32)) (v := (.int o1_284)) (by rw [e361]; exact Ar364.1) (State.isArrayOf_alike hZ.alike Ar364.2.1) Ar364.2.2 hin368 hat368 (g := (mkF m 482 #[oI p0, oI p1, oI p2, oI p3, oI p4, oI 3, oI ma0, oI ma1, oI ma2, oD (FP.i2d v0), oV, oD (FP.i2d v1), oV, oD (FP.i2d v2), oV, oR b255, oR b269, oI orr_284, oR b286, oI 1, oI fq, oI sn, oI 2, oI (own_h110 x)] [(.int 1), (.ref b255)])) rfl rfl (hb hby at_482) _ ?_
            show own_S p e below T361 m 483 #[oI p0, oI p1, oI p2, oI p3, oI p4, oI 3, oI ma0, oI ma1, oI ma2, oD (FP.i2d v0), oV, oD (FP.i2d v1), oV, oD (FP.i2d v2), oV, oR b255, oR b269, oI orr_284, oR b286, oI 1, oI fq, oI sn, oI 2, oI (own_h110 x)] [(.int o1_284)] _
            refine XS.aload X361.here hx rfl (hb hby at_483) rfl rfl ?_
            show own_S p e below T361 m 485 _ [(.ref b286), (.int o1_284)] _
            refine XS.iconst X361.here hx rfl (hb hby at_485) ?_
            show own_S p e below T361 m 486 _ [(.int 1), (.ref b286), (.int o1_284)] _
            refine X361.iaload hx (j := (1 : Int32)) (v := (.int (own_p 1 (own_h110 x) sn ma1))) (by rw [e361]; exact Ar366.1) (State.isArrayOf_alike hZ.alike Ar366.2.1) Ar366.2.2 hin369 hat369 (g := (mkF m 486 #[oI p0, oI p1, oI p2, oI p3, oI p4, oI 3, oI ma0, oI ma1, oI ma2, oD (FP.i2d v0), oV, oD (FP.i2d v1), oV, oD (FP.i2d v2), oV, oR b255, oR b269, oI orr_284, oR b286, oI 1, oI fq, oI sn, oI 2, oI (own_h110 x)] [(.int 1), (.ref b286), (.int o1_284)])) rfl rfl (hb hby at_486) _ ?_
            show own_S p e below T361 m 487 _ [(.int (own_p 1 (own_h110 x) sn ma1)), (.int o1_284)] _
            refine XS.icmpNo X361.here hx rfl (hb hby at_487) rfl (teq ((by first | (rw [hfq, hsn]; exact (hPF.2.1.symm.trans hE.2.1)) | (rw [hsn]; exact (hPF.2.1.symm.trans hE.2.1))) : o1_284 = (own_p 1 (own_h110 x) sn ma1))).2 ?_
            show own_S p e below T361 m 490 _ [] _
            refine XS.aload X361.here hx rfl (hb hby at_490) rfl rfl ?_
            show own_S p e below T361 m 492 _ [(.ref b255)] _
            refine XS.iconst X361.here hx rfl (hb hby at_492) ?_
            show own_S p e below T361 m 493 _ [(.int 2), (.ref b255)] _
            refine X361.iaload hx (j := (2 : Int32)) (v := (.int o2_284)) (by rw [e361]; exact Ar364.1) (State.isArrayOf_alike hZ.alike Ar364.2.1) Ar364.2.2 hin370 hat370 (g := (mkF m 493 #[oI p0, oI p1, oI p2, oI p3, oI p4, oI 3, oI ma0, oI ma1, oI ma2, oD (FP.i2d v0), oV, oD (FP.i2d v1), oV, oD (FP.i2d v2), oV, oR b255, oR b269, oI orr_284, oR b286, oI 1, oI fq, oI sn, oI 2, oI (own_h110 x)] [(.int 2), (.ref b255)])) rfl rfl (hb hby at_493) _ ?_
            show own_S p e below T361 m 494 #[oI p0, oI p1, oI p2, oI p3, oI p4, oI 3, oI ma0, oI ma1, oI ma2, oD (FP.i2d v0), oV, oD (FP.i2d v1), oV, oD (FP.i2d v2), oV, oR b255, oR b269, oI orr_284, oR b286, oI 1, oI fq, oI sn, oI 2, oI (own_h110 x)] [(.int o2_284)] _
            refine XS.aload X361.here hx rfl (hb hby at_494) rfl rfl ?_
            show own_S p e below T361 m 496 _ [(.ref b286), (.int o2_284)] _
            refine XS.iconst X361.here hx rfl (hb hby at_496) ?_
            show own_S p e below T361 m 497 _ [(.int 2), (.ref b286), (.int o2_284)] _
            refine X361.iaload hx (j := (2 : Int32)) (v := (.int (own_p 2 (own_h110 x) sn fq))) (by rw [e361]; exact Ar366.1) (State.isArrayOf_alike hZ.alike Ar366.2.1) Ar366.2.2 hin371 hat371 (g := (mkF m 497 #[oI p0, oI p1, oI p2, oI p3, oI p4, oI 3, oI ma0, oI ma1, oI ma2, oD (FP.i2d v0), oV, oD (FP.i2d v1), oV, oD (FP.i2d v2), oV, oR b255, oR b269, oI orr_284, oR b286, oI 1, oI fq, oI sn, oI 2, oI (own_h110 x)] [(.int 2), (.ref b286), (.int o2_284)])) rfl rfl (hb hby at_497) _ ?_
            show own_S p e below T361 m 498 _ [(.int (own_p 2 (own_h110 x) sn fq)), (.int o2_284)] _
            refine XS.icmpNo X361.here hx rfl (hb hby at_498) rfl (teq ((by first | (rw [hfq, hsn]; exact (hPF.2.2.1.symm.trans hE.2.2.1)) | (rw [hsn]; exact (hPF.2.2.1.symm.trans hE.2.2.1))) : o2_284 = (own_p 2 (own_h110 x) sn fq))).2 ?_
            show own_S p e below T361 m 501 _ [] _
            refine XS.aload X361.here hx rfl (hb hby at_501) rfl rfl ?_
            show own_S p e below T361 m 503 _ [(.ref b269)] _
            refine XS.iconst X361.here hx rfl (hb hby at_503) ?_
            show own_S p e below T361 m 504 _ [(.int 0), (.ref b269)] _
            refine X361.daload hx (j := (0 : Int32)) (v := (.double (FP.i2d v0))) (by rw [e361]; exact Ar373.1) (State.isArrayOf_alike hZ.alike Ar373.2.1) Ar373.2.2 hin374 hat374 (g := (mkF m 504 #[oI p0, oI p1, oI p2, oI p3, oI p4, oI 3, oI ma0, oI ma1, oI ma2, oD (FP.i2d v0), oV, oD (FP.i2d v1), oV, oD (FP.i2d v2), oV, oR b255, oR b269, oI orr_284, oR b286, oI 1, oI fq, oI sn, oI 2, oI (own_h110 x)] [(.int 0), (.ref b269)])) rfl rfl (hb hby at_504) _ ?_
            show own_S p e below T361 m 505 #[oI p0, oI p1, oI p2, oI p3, oI p4, oI 3, oI ma0, oI ma1, oI ma2, oD (FP.i2d v0), oV, oD (FP.i2d v1), oV, oD (FP.i2d v2), oV, oR b255, oR b269, oI orr_284, oR b286, oI 1, oI fq, oI sn, oI 2, oI (own_h110 x)] [(.double (FP.i2d v0))] _
            refine XS.dload X361.here hx rfl (hb hby at_505) rfl ?_
            show own_S p e below T361 m 507 _ [(.double (FP.i2d v0)), (.double (FP.i2d v0))] _
            refine XS.dcmpS X361.here hx rfl (v := (0 : Int32)) (hb hby at_507) rfl (own_ieq (FP.Core.i2d_int v0) (FP.Core.i2d_int v0) rfl .l) ?_
            show own_S p e below T361 m 508 _ [(.int 0)] _
            refine XS.ifNo X361.here hx rfl (hb hby at_508) rfl ((if0 _ _).trans (teq (by decide : (0 : Int32) = (0 : Int32))).2) ?_
            show own_S p e below T361 m 511 _ [] _
            refine XS.aload X361.here hx rfl (hb hby at_511) rfl rfl ?_
            show own_S p e below T361 m 513 _ [(.ref b269)] _
            refine XS.iconst X361.here hx rfl (hb hby at_513) ?_
            show own_S p e below T361 m 514 _ [(.int 1), (.ref b269)] _
            refine X361.daload hx (j := (1 : Int32)) (v := (.double (FP.i2d v1))) (by rw [e361]; exact Ar373.1) (State.isArrayOf_alike hZ.alike Ar373.2.1) Ar373.2.2 hin375 hat375 (g := (mkF m 514 #[oI p0, oI p1, oI p2, oI p3, oI p4, oI 3, oI ma0, oI ma1, oI ma2, oD (FP.i2d v0), oV, oD (FP.i2d v1), oV, oD (FP.i2d v2), oV, oR b255, oR b269, oI orr_284, oR b286, oI 1, oI fq, oI sn, oI 2, oI (own_h110 x)] [(.int 1), (.ref b269)])) rfl rfl (hb hby at_514) _ ?_
            show own_S p e below T361 m 515 _ [(.double (FP.i2d v1))] _
            refine XS.dload X361.here hx rfl (hb hby at_515) rfl ?_
            show own_S p e below T361 m 517 #[oI p0, oI p1, oI p2, oI p3, oI p4, oI 3, oI ma0, oI ma1, oI ma2, oD (FP.i2d v0), oV, oD (FP.i2d v1), oV, oD (FP.i2d v2), oV, oR b255, oR b269, oI orr_284, oR b286, oI 1, oI fq, oI sn, oI 2, oI (own_h110 x)] [(.double (FP.i2d v1)), (.double (FP.i2d v1))] _
            refine XS.dcmpS X361.here hx rfl (v := (0 : Int32)) (hb hby at_517) rfl (own_ieq (FP.Core.i2d_int v1) (FP.Core.i2d_int v1) rfl .l) ?_
            show own_S p e below T361 m 518 _ [(.int 0)] _
            refine XS.ifNo X361.here hx rfl (hb hby at_518) rfl ((if0 _ _).trans (teq (by decide : (0 : Int32) = (0 : Int32))).2) ?_
            show own_S p e below T361 m 521 _ [] _
            refine XS.aload X361.here hx rfl (hb hby at_521) rfl rfl ?_
            show own_S p e below T361 m 523 _ [(.ref b269)] _
            refine XS.iconst X361.here hx rfl (hb hby at_523) ?_
            show own_S p e below T361 m 524 _ [(.int 2), (.ref b269)] _
            refine X361.daload hx (j := (2 : Int32)) (v := (.double (FP.i2d v2))) (by rw [e361]; exact Ar373.1) (State.isArrayOf_alike hZ.alike Ar373.2.1) Ar373.2.2 hin376 hat376 (g := (mkF m 524 #[oI p0, oI p1, oI p2, oI p3, oI p4, oI 3, oI ma0, oI ma1, oI ma2, oD (FP.i2d v0), oV, oD (FP.i2d v1), oV, oD (FP.i2d v2), oV, oR b255, oR b269, oI orr_284, oR b286, oI 1, oI fq, oI sn, oI 2, oI (own_h110 x)] [(.int 2), (.ref b269)])) rfl rfl (hb hby at_524) _ ?_
            show own_S p e below T361 m 525 _ [(.double (FP.i2d v2))] _
            refine XS.dload X361.here hx rfl (hb hby at_525) rfl ?_
            show own_S p e below T361 m 527 _ [(.double (FP.i2d v2)), (.double (FP.i2d v2))] _
            refine XS.dcmpS X361.here hx rfl (v := (0 : Int32)) (hb hby at_527) rfl (own_ieq (FP.Core.i2d_int v2) (FP.Core.i2d_int v2) rfl .l) ?_
            show own_S p e below T361 m 528 #[oI p0, oI p1, oI p2, oI p3, oI p4, oI 3, oI ma0, oI ma1, oI ma2, oD (FP.i2d v0), oV, oD (FP.i2d v1), oV, oD (FP.i2d v2), oV, oR b255, oR b269, oI orr_284, oR b286, oI 1, oI fq, oI sn, oI 2, oI (own_h110 x)] [(.int 0)] _
            refine XS.ifNo X361.here hx rfl (hb hby at_528) rfl ((if0 _ _).trans (teq (by decide : (0 : Int32) = (0 : Int32))).2) ?_
            show own_S p e below T361 m 531 _ [] _
            refine XS.iconst X361.here hx rfl (hb hby at_531) ?_
            show own_S p e below T361 m 532 _ [(.int 1)] _
            refine XS.goto X361.here hx rfl (pc0 := 532) (pc' := 536) rfl (hb hby at_532) (by decide) (by decide) ?_
            show own_S p e below T361 m 536 _ [(.int 1)] _
            exact retN X361 hx (t := .boolean) Bd.returns (by simp) (hb hby at_536) hr
          · show Qm0 Z p0 p1 p2 p3 p4 h0 n0 _ T361.heap _
            rw [e361]
            exact ⟨rfl, N361⟩
      · skip
        obtain ⟨_, _, ⟨T377, L377, k377, n377⟩, -, X377, ⟨Lc377, hQ377, l377, y377, z377⟩, st377⟩ := Jvm.LawKit.callS X298 hx (y := (⟨"com/example/metasearch/metasearch/EmptyClustersFillPinLaw", "worst", "(ZZZDDD)I"⟩ : MethodName)) hown (mvT hZ (own_w hw 7 rfl)) (mvT hZ (own_w hw 8 rfl)) (mvT hZ (own_w hw 9 rfl)) (mvT hZ (own_w hw 10 rfl)) (by decide) (backOf (W := 0) (rmw110 l Z a0 hw [] (FP.i2d v0) (FP.i2d v1) (FP.i2d v2) x y z h298 n0 ZZ299 gx gy gz lx) hZ (own_w hw 10 rfl) (own_w hw 9 rfl) (by decide) (by decide)) (g := (mkF m 446 #[oI p0, oI p1, oI p2, oI p3, oI p4, oI 3, oI ma0, oI ma1, oI ma2, oD (FP.i2d v0), oV, oD (FP.i2d v1), oV, oD (FP.i2d v2), oV, oR b255, oR b269, oI orr_284, oR b286, oI 0, oI ma0, oI ma2, .val (.int (((3 : Int32) - ma0) - ma2)), oU] [(.double (FP.i2d v2)), (.double (FP.i2d v1)), (.double (FP.i2d v0)), (.int 0), (.int 1), (.int 1)])) rfl (by rw [hml]; rfl) (argsL := [(.int 1), (.int 1), (.int 0), (.double (FP.i2d v0)), (.double (FP.i2d v1)), (.double (FP.i2d v2))]) (rest := []) (lenOf pd1 rfl) rfl (by show 2 * 0 + _ ≤ _; exact Nat.le_of_eq rfl) (hb hby at_446) (fun _ _ => ⟨rfl, e298, (by decide : 4 + 0 ≤ _), (by decide : 12 + 0 ≤ _)⟩)
        dsimp only [Pt.U, Pt.locs, Pt.cells, Pt.slots] at X377 l377 y377 z377 st377 hQ377
        subst l377 y377 z377
        obtain ⟨rfl, Nq377, P377_0⟩ := hQ377
        have N377 := Fr.app N298 Nq377
        obtain ⟨cl378, Ar378, qk378, Sz378, Nz378, Hh378, Gg378⟩ := id Va298
        have hin379 : ¬ ((own_h110 x) < 0 ∨ cl378.slots.size ≤ ((own_h110 x)).toNatClampNeg) := inb_of Sz378 (own_b3 (own_h110r x))
        obtain ⟨T380, h380, X380, e380, W380, st380⟩ := stI X377 hx hZ P377_0 Ar378 (j := (own_h110 x)) hin379 (g := (mkF m 457 #[oI p0, oI p1, oI p2, oI p3, oI p4, oI 3, oI ma0, oI ma1, oI ma2, oD (FP.i2d v0), oV, oD (FP.i2d v1), oV, oD (FP.i2d v2), oV, oR b255, oR b269, oI orr_284, oR b286, oI 0, oI ma0, oI ma2, .val (.int (((3 : Int32) - ma0) - ma2)), oI (own_h110 x)] [(.int (((3 : Int32) - ma0) - ma2)), (.int (own_h110 x)), (.ref b286)])) rfl rfl (hb hby at_457)
        have Va380 := Arv.set Ar378 qk378 Sz378 Nz378 Hh378 Gg378 rfl W380 ((own_h110 x)).toNatClampNeg rfl (own_l3 (own_h110r x))
        have Vs380 : Arv Z h380 b286 k286 .int (3 : Int32) [(.int (own_p 0 (own_h110 x) (((3 : Int32) - ma0) - ma2) ma0)), (.int (own_p 1 (own_h110 x) (((3 : Int32) - ma0) - ma2) ma1)), (.int (own_p 2 (own_h110 x) (((3 : Int32) - ma0) - ma2) ma2))] (.int 0) := by rw [← (own_s3 (own_h110r x) : ([(.int ma0), (.int ma1), (.int ma2)] : List Value).set ((own_h110 x)).toNatClampNeg (.int (((3 : Int32) - ma0) - ma2)) = [(.int (own_p 0 (own_h110 x) (((3 : Int32) - ma0) - ma2) ma0)), (.int (own_p 1 (own_h110 x) (((3 : Int32) - ma0) - ma2) ma1)), (.int (own_p 2 (own_h110 x) (((3 : Int32) - ma0) - ma2) ma2))])]; exact Va380
        have N380 := Fr.snoc X380 N377 g_b286
        have ZZ381 : n0 ≤ h380.size := Nat.le_trans ZZ299 (Nat.le_of_eq W380.size.symm)
        have hE := own_E3A x y z ra0 ra1 ra2 e01 e12
        have Fc382 := (((((P284_1.ext E286).other W290 (Nat.ne_of_lt (Nat.lt_of_lt_of_le P284_1.lt (Nat.le_of_eq g286.symm)))).other W294 (Nat.ne_of_lt (Nat.lt_of_lt_of_le P284_1.lt (Nat.le_of_eq g286.symm)))).other W298 (Nat.ne_of_lt (Nat.lt_of_lt_of_le P284_1.lt (Nat.le_of_eq g286.symm)))).other W380 (Nat.ne_of_lt (Nat.lt_of_lt_of_le P284_1.lt (Nat.le_of_eq g286.symm))))
        obtain ⟨cl383, Ar383, qk383, Sz383, Nz383, Hh383, Gg383⟩ := id Fc382
        have hin384 : ¬ ((0 : Int32) < 0 ∨ cl383.slots.size ≤ ((0 : Int32)).toNatClampNeg) := inb_of Sz383 ⟨by decide, by decide⟩
        have hat384 : cl383.slots[((0 : Int32)).toNatClampNeg]? = some (.int o0_284) := Has.at Hh383 hin384 rfl
        obtain ⟨cl385, Ar385, qk385, Sz385, Nz385, Hh385, Gg385⟩ := id Vs380
        have hin386 : ¬ ((0 : Int32) < 0 ∨ cl385.slots.size ≤ ((0 : Int32)).toNatClampNeg) := inb_of Sz385 ⟨by decide, by decide⟩
        have hat386 : cl385.slots[((0 : Int32)).toNatClampNeg]? = some (.int (own_p 0 (own_h110 x) (((3 : Int32) - ma0) - ma2) ma0)) := Has.at Hh385 hin386 rfl
        have hin387 : ¬ ((1 : Int32) < 0 ∨ cl383.slots.size ≤ ((1 : Int32)).toNatClampNeg) := inb_of Sz383 ⟨by decide, by decide⟩
        have hat387 : cl383.slots[((1 : Int32)).toNatClampNeg]? = some (.int o1_284) := Has.at Hh383 hin387 rfl
        have hin388 : ¬ ((1 : Int32) < 0 ∨ cl385.slots.size ≤ ((1 : Int32)).toNatClampNeg) := inb_of Sz385 ⟨by decide, by decide⟩
        have hat388 : cl385.slots[((1 : Int32)).toNatClampNeg]? = some (.int (own_p 1 (own_h110 x) (((3 : Int32) - ma0) - ma2) ma1)) := Has.at Hh385 hin388 rfl
        have hin389 : ¬ ((2 : Int32) < 0 ∨ cl383.slots.size ≤ ((2 : Int32)).toNatClampNeg) := inb_of Sz383 ⟨by decide, by decide⟩
        have hat389 : cl383.slots[((2 : Int32)).toNatClampNeg]? = some (.int o2_284) := Has.at Hh383 hin389 rfl
        have hin390 : ¬ ((2 : Int32) < 0 ∨ cl385.slots.size ≤ ((2 : Int32)).toNatClampNeg) := inb_of Sz385 ⟨by decide, by decide⟩
        have hat390 : cl385.slots[((2 : Int32)).toNatClampNeg]? = some (.int (own_p 2 (own_h110 x) (((3 : Int32) - ma0) - ma2) ma2)) := Has.at Hh385 hin390 rfl
        have Fc391 := ((((((Va281.keep P284_0 (ninS (Ne.symm (Nat.ne_of_lt (Nat.lt_of_lt_of_le Va267.lt (Nat.le_of_eq g269.symm)))) nin0)).ext E286).other W290 (Nat.ne_of_lt (Nat.lt_of_lt_of_le (Va281.keep P284_0 (ninS (Ne.symm (Nat.ne_of_lt (Nat.lt_of_lt_of_le Va267.lt (Nat.le_of_eq g269.symm)))) nin0)).lt (Nat.le_of_eq g286.symm)))).other W294 (Nat.ne_of_lt (Nat.lt_of_lt_of_le (Va281.keep P284_0 (ninS (Ne.symm (Nat.ne_of_lt (Nat.lt_of_lt_of_le Va267.lt (Nat.le_of_eq g269.symm)))) nin0)).lt (Nat.le_of_eq g286.symm)))).other W298 (Nat.ne_of_lt (Nat.lt_of_lt_of_le (Va281.keep P284_0 (ninS (Ne.symm (Nat.ne_of_lt (Nat.lt_of_lt_of_le Va267.lt (Nat.le_of_eq g269.symm)))) nin0)).lt (Nat.le_of_eq g286.symm)))).other W380 (Nat.ne_of_lt (Nat.lt_of_lt_of_le (Va281.keep P284_0 (ninS (Ne.symm (Nat.ne_of_lt (Nat.lt_of_lt_of_le Va267.lt (Nat.le_of_eq g269.symm)))) nin0)).lt (Nat.le_of_eq g286.symm))))
        obtain ⟨cl392, Ar392, qk392, Sz392, Nz392, Hh392, Gg392⟩ := id Fc391
        have hin393 : ¬ ((0 : Int32) < 0 ∨ cl392.slots.size ≤ ((0 : Int32)).toNatClampNeg) := inb_of Sz392 ⟨by decide, by decide⟩
        have hat393 : cl392.slots[((0 : Int32)).toNatClampNeg]? = some (.double (FP.i2d v0)) := Has.at Hh392 hin393 rfl
        have hin394 : ¬ ((1 : Int32) < 0 ∨ cl392.slots.size ≤ ((1 : Int32)).toNatClampNeg) := inb_of Sz392 ⟨by decide, by decide⟩
        have hat394 : cl392.slots[((1 : Int32)).toNatClampNeg]? = some (.double (FP.i2d v1)) := Has.at Hh392 hin394 rfl
        have hin395 : ¬ ((2 : Int32) < 0 ∨ cl392.slots.size ≤ ((2 : Int32)).toNatClampNeg) := inb_of Sz392 ⟨by decide, by decide⟩
        have hat395 : cl392.slots[((2 : Int32)).toNatClampNeg]? = some (.double (FP.i2d v2)) := Has.at Hh392 hin395 rfl
        obtain ⟨fs, hr, hrun, hended, hW, hsame⟩ := X380.leave (v := some (.int 1)) (fun h => by rw [Bd.returns] at h; cases h)
        refine ⟨_, _, pre0 _ (pre301 _ ?_), hrun, hended, _, _, rfl, ?_, ⟨_, rfl⟩, hW, hsame.mono (by decide) (by decide)⟩
        · show own_S p e below T298 m 212 #[oI p0, oI p1, oI p2, oI p3, oI p4, oI 3, oI ma0, oI ma1, oI ma2, oD (FP.i2d v0), oV, oD (FP.i2d v1), oV, oD (FP.i2d v2), oV, oR b255, oR b269, oI orr_284, oR b286, oI 0, oU, oU, oU, oU] [(.int ma2), (.int ma1)] _
          refine XS.icmpYes X298.here hx rfl (pc0 := 212) (pc' := 317) rfl (hb hby at_212) rfl (feq (e12 : ¬ (ma1 = ma2))).2 (by decide) (by decide) ?_
          show own_S p e below T298 m 317 _ [] _
          refine XS.iload X298.here hx rfl (hb hby at_317) rfl ?_
          show own_S p e below T298 m 319 _ [(.int ma0)] _
          refine XS.iload X298.here hx rfl (hb hby at_319) rfl ?_
          show own_S p e below T298 m 321 _ [(.int ma1), (.int ma0)] _
          refine XS.icmpYes X298.here hx rfl (pc0 := 321) (pc' := 344) rfl (hb hby at_321) rfl (teq (e01 : ma0 = ma1)).1 (by decide) (by decide) ?_
          show own_S p e below T298 m 344 _ [] _
          refine XS.iload X298.here hx rfl (hb hby at_344) rfl ?_
          show own_S p e below T298 m 346 _ [(.int ma0)] _
          refine XS.iload X298.here hx rfl (hb hby at_346) rfl ?_
          show own_S p e below T298 m 348 _ [(.int ma1), (.int ma0)] _
          refine XS.icmpYes X298.here hx rfl (pc0 := 348) (pc' := 358) rfl (hb hby at_348) rfl (teq (e01 : ma0 = ma1)).1 (by decide) (by decide) ?_
          show own_S p e below T298 m 358 #[oI p0, oI p1, oI p2, oI p3, oI p4, oI 3, oI ma0, oI ma1, oI ma2, oD (FP.i2d v0), oV, oD (FP.i2d v1), oV, oD (FP.i2d v2), oV, oR b255, oR b269, oI orr_284, oR b286, oI 0, oU, oU, oU, oU] [] _
          refine XS.iload X298.here hx rfl (hb hby at_358) rfl ?_
          show own_S p e below T298 m 360 _ [(.int ma0)] _
          refine XS.goto X298.here hx rfl (pc0 := 360) (pc' := 365) rfl (hb hby at_360) (by decide) (by decide) ?_
          show own_S p e below T298 m 365 _ [(.int ma0)] _
          refine XS.istore X298.here hx rfl (hb hby at_365) rfl (l' := #[oI p0, oI p1, oI p2, oI p3, oI p4, oI 3, oI ma0, oI ma1, oI ma2, oD (FP.i2d v0), oV, oD (FP.i2d v1), oV, oD (FP.i2d v2), oV, oR b255, oR b269, oI orr_284, oR b286, oI 0, oI ma0, oU, oU, oU]) rfl ?_
          show own_S p e below T298 m 367 #[oI p0, oI p1, oI p2, oI p3, oI p4, oI 3, oI ma0, oI ma1, oI ma2, oD (FP.i2d v0), oV, oD (FP.i2d v1), oV, oD (FP.i2d v2), oV, oR b255, oR b269, oI orr_284, oR b286, oI 0, oI ma0, oU, oU, oU] [] _
          refine XS.iload X298.here hx rfl (hb hby at_367) rfl ?_
          show own_S p e below T298 m 369 _ [(.int ma0)] _
          refine XS.iload X298.here hx rfl (hb hby at_369) rfl ?_
          show own_S p e below T298 m 371 _ [(.int ma1), (.int ma0)] _
          refine XS.icmpNo X298.here hx rfl (hb hby at_371) rfl (teq (e01 : ma0 = ma1)).2 ?_
          show own_S p e below T298 m 374 _ [] _
          refine XS.iload X298.here hx rfl (hb hby at_374) rfl ?_
          show own_S p e below T298 m 376 _ [(.int ma2)] _
          refine XS.goto X298.here hx rfl (pc0 := 376) (pc' := 393) rfl (hb hby at_376) (by decide) (by decide) ?_
          show own_S p e below T298 m 393 _ [(.int ma2)] _
          refine XS.istore X298.here hx rfl (hb hby at_393) rfl (l' := #[oI p0, oI p1, oI p2, oI p3, oI p4, oI 3, oI ma0, oI ma1, oI ma2, oD (FP.i2d v0), oV, oD (FP.i2d v1), oV, oD (FP.i2d v2), oV, oR b255, oR b269, oI orr_284, oR b286, oI 0, oI ma0, oI ma2, oU, oU]) rfl ?_
          show own_S p e below T298 m 395 #[oI p0, oI p1, oI p2, oI p3, oI p4, oI 3, oI ma0, oI ma1, oI ma2, oD (FP.i2d v0), oV, oD (FP.i2d v1), oV, oD (FP.i2d v2), oV, oR b255, oR b269, oI orr_284, oR b286, oI 0, oI ma0, oI ma2, oU, oU] [] _
          refine XS.iconst X298.here hx rfl (hb hby at_395) ?_
          show own_S p e below T298 m 396 _ [(.int 3)] _
          refine XS.iload X298.here hx rfl (hb hby at_396) rfl ?_
          show own_S p e below T298 m 398 _ [(.int ma0), (.int 3)] _
          refine XS.isub X298.here hx rfl (hb hby at_398) rfl ?_
          show own_S p e below T298 m 399 _ [(.int ((3 : Int32) - ma0))] _
          refine XS.iload X298.here hx rfl (hb hby at_399) rfl ?_
          show own_S p e below T298 m 401 _ [(.int ma2), (.int ((3 : Int32) - ma0))] _
          refine XS.isub X298.here hx rfl (hb hby at_401) rfl ?_
          show own_S p e below T298 m 402 _ [(.int (((3 : Int32) - ma0) - ma2))] _
          refine XS.istore X298.here hx rfl (hb hby at_402) rfl (l' := #[oI p0, oI p1, oI p2, oI p3, oI p4, oI 3, oI ma0, oI ma1, oI ma2, oD (FP.i2d v0), oV, oD (FP.i2d v1), oV, oD (FP.i2d v2), oV, oR b255, oR b269, oI orr_284, oR b286, oI 0, oI ma0, oI ma2, .val (.int (((3 : Int32) - ma0) - ma2)), oU]) rfl ?_
          show own_S p e below T298 m 404 #[oI p0, oI p1, oI p2, oI p3, oI p4, oI 3, oI ma0, oI ma1, oI ma2, oD (FP.i2d v0), oV, oD (FP.i2d v1), oV, oD (FP.i2d v2), oV, oR b255, oR b269, oI orr_284, oR b286, oI 0, oI ma0, oI ma2, .val (.int (((3 : Int32) - ma0) - ma2)), oU] [] _
          refine XS.iload X298.here hx rfl (hb hby at_404) rfl ?_
          show own_S p e below T298 m 406 _ [(.int ma0)] _
          refine XS.iload X298.here hx rfl (hb hby at_406) rfl ?_
          show own_S p e below T298 m 408 _ [(.int ma0), (.int ma0)] _
          refine XS.icmpNo X298.here hx rfl (hb hby at_408) rfl (teq (rfl : ma0 = ma0)).2 ?_
          show own_S p e below T298 m 411 _ [] _
          refine XS.iconst X298.here hx rfl (hb hby at_411) ?_
          show own_S p e below T298 m 412 _ [(.int 1)] _
          refine XS.goto X298.here hx rfl (pc0 := 412) (pc' := 416) rfl (hb hby at_412) (by decide) (by decide) ?_
          show own_S p e below T298 m 416 _ [(.int 1)] _
          refine XS.iload X298.here hx rfl (hb hby at_416) rfl ?_
          show own_S p e below T298 m 418 _ [(.int ma1), (.int 1)] _
          refine XS.iload X298.here hx rfl (hb hby at_418) rfl ?_
          show own_S p e below T298 m 420 #[oI p0, oI p1, oI p2, oI p3, oI p4, oI 3, oI ma0, oI ma1, oI ma2, oD (FP.i2d v0), oV, oD (FP.i2d v1), oV, oD (FP.i2d v2), oV, oR b255, oR b269, oI orr_284, oR b286, oI 0, oI ma0, oI ma2, .val (.int (((3 : Int32) - ma0) - ma2)), oU] [(.int ma0), (.int ma1), (.int 1)] _
          refine XS.icmpNo X298.here hx rfl (hb hby at_420) rfl (teq (e01.symm : ma1 = ma0)).2 ?_
          show own_S p e below T298 m 423 _ [(.int 1)] _
          refine XS.iconst X298.here hx rfl (hb hby at_423) ?_
          show own_S p e below T298 m 424 _ [(.int 1), (.int 1)] _
          refine XS.goto X298.here hx rfl (pc0 := 424) (pc' := 428) rfl (hb hby at_424) (by decide) (by decide) ?_
          show own_S p e below T298 m 428 _ [(.int 1), (.int 1)] _
          refine XS.iload X298.here hx rfl (hb hby at_428) rfl ?_
          show own_S p e below T298 m 430 _ [(.int ma2), (.int 1), (.int 1)] _
          refine XS.iload X298.here hx rfl (hb hby at_430) rfl ?_
          show own_S p e below T298 m 432 _ [(.int ma0), (.int ma2), (.int 1), (.int 1)] _
          refine XS.icmpYes X298.here hx rfl (pc0 := 432) (pc' := 439) rfl (hb hby at_432) rfl (feq ((fun q => e12 (e01.symm.trans q.symm)) : ¬ (ma2 = ma0))).2 (by decide) (by decide) ?_
          show own_S p e below T298 m 439 _ [(.int 1), (.int 1)] _
          refine XS.iconst X298.here hx rfl (hb hby at_439) ?_
          show own_S p e below T298 m 440 #[oI p0, oI p1, oI p2, oI p3, oI p4, oI 3, oI ma0, oI ma1, oI ma2, oD (FP.i2d v0), oV, oD (FP.i2d v1), oV, oD (FP.i2d v2), oV, oR b255, oR b269, oI orr_284, oR b286, oI 0, oI ma0, oI ma2, .val (.int (((3 : Int32) - ma0) - ma2)), oU] [(.int 0), (.int 1), (.int 1)] _
          refine XS.dload X298.here hx rfl (hb hby at_440) rfl ?_
          show own_S p e below T298 m 442 _ [(.double (FP.i2d v0)), (.int 0), (.int 1), (.int 1)] _
          refine XS.dload X298.here hx rfl (hb hby at_442) rfl ?_
          show own_S p e below T298 m 444 _ [(.double (FP.i2d v1)), (.double (FP.i2d v0)), (.int 0), (.int 1), (.int 1)] _
          refine XS.dload X298.here hx rfl (hb hby at_444) rfl ?_
          show own_S p e below T298 m 446 _ [(.double (FP.i2d v2)), (.double (FP.i2d v1)), (.double (FP.i2d v0)), (.int 0), (.int 1), (.int 1)] _
          refine st377 _ ?_
          show own_S p e below T377 m 449 _ [(.int (own_h110 x))] _
          refine XS.istore X377.here hx rfl (hb hby at_449) rfl (l' := #[oI p0, oI p1, oI p2, oI p3, oI p4, oI 3, oI ma0, oI ma1, oI ma2, oD (FP.i2d v0), oV, oD (FP.i2d v1), oV, oD (FP.i2d v2), oV, oR b255, oR b269, oI orr_284, oR b286, oI 0, oI ma0, oI ma2, .val (.int (((3 : Int32) - ma0) - ma2)), oI (own_h110 x)]) rfl ?_
          show own_S p e below T377 m 451 #[oI p0, oI p1, oI p2, oI p3, oI p4, oI 3, oI ma0, oI ma1, oI ma2, oD (FP.i2d v0), oV, oD (FP.i2d v1), oV, oD (FP.i2d v2), oV, oR b255, oR b269, oI orr_284, oR b286, oI 0, oI ma0, oI ma2, .val (.int (((3 : Int32) - ma0) - ma2)), oI (own_h110 x)] [] _
          refine XS.aload X377.here hx rfl (hb hby at_451) rfl rfl ?_
          show own_S p e below T377 m 453 _ [(.ref b286)] _
          refine XS.iload X377.here hx rfl (hb hby at_453) rfl ?_
          show own_S p e below T377 m 455 _ [(.int (own_h110 x)), (.ref b286)] _
          refine XS.iload X377.here hx rfl (hb hby at_455) rfl ?_
          show own_S p e below T377 m 457 _ [(.int (((3 : Int32) - ma0) - ma2)), (.int (own_h110 x)), (.ref b286)] _
          refine st380 _ ?_
          show own_S p e below T380 m 458 _ [] _
          refine XS.iconst X380.here hx rfl (hb hby at_458) ?_
          show own_S p e below T380 m 459 _ [(.int 1)] _
          refine XS.istore X380.here hx rfl (hb hby at_459) rfl (l' := #[oI p0, oI p1, oI p2, oI p3, oI p4, oI 3, oI ma0, oI ma1, oI ma2, oD (FP.i2d v0), oV, oD (FP.i2d v1), oV, oD (FP.i2d v2), oV, oR b255, oR b269, oI orr_284, oR b286, oI 1, oI ma0, oI ma2, .val (.int (((3 : Int32) - ma0) - ma2)), oI (own_h110 x)]) rfl ?_
          show own_S p e below T380 m 461 #[oI p0, oI p1, oI p2, oI p3, oI p4, oI 3, oI ma0, oI ma1, oI ma2, oD (FP.i2d v0), oV, oD (FP.i2d v1), oV, oD (FP.i2d v2), oV, oR b255, oR b269, oI orr_284, oR b286, oI 1, oI ma0, oI ma2, .val (.int (((3 : Int32) - ma0) - ma2)), oI (own_h110 x)] [] _
          refine XS.iload X380.here hx rfl (hb hby at_461) rfl ?_
          show own_S p e below T380 m 463 _ [(.int orr_284)] _
          refine XS.iload X380.here hx rfl (hb hby at_463) rfl ?_
          show own_S p e below T380 m 465 _ [(.int 1), (.int orr_284)] _
          refine XS.icmpNo X380.here hx rfl (hb hby at_465) rfl (teq ((hPF.2.2.2.symm.trans hE.2.2.2) : orr_284 = (1 : Int32))).2 ?_
          show own_S p e below T380 m 468 _ [] _
          refine XS.aload X380.here hx rfl (hb hby at_468) rfl rfl ?_
          show own_S p e below T380 m 470 _ [(.ref b255)] _
          refine XS.iconst X380.here hx rfl (hb hby at_470) ?_
          show own_S p e below T380 m 471 _ [(.int 0), (.ref b255)] _
          refine X380.iaload hx (j := (0 : Int32)) (v := (.int o0_284)) (by rw [e380]; exact Ar383.1) (State.isArrayOf_alike hZ.alike Ar383.2.1) Ar383.2.2 hin384 hat384 (g := (mkF m 471 #[oI p0, oI p1, oI p2, oI p3, oI p4, oI 3, oI ma0, oI ma1, oI ma2, oD (FP.i2d v0), oV, oD (FP.i2d v1), oV, oD (FP.i2d v2), oV, oR b255, oR b269, oI orr_284, oR b286, oI 1, oI ma0, oI ma2, .val (.int (((3 : Int32) - ma0) - ma2)), oI (own_h110 x)] [(.int 0), (.ref b255)])) rfl rfl (hb hby at_471) _ ?_
          show own_S p e below T380 m 472 _ [(.int o0_284)] _
          refine XS.aload X380.here hx rfl (hb hby at_472) rfl rfl ?_
          show own_S p e below T380 m 474 #[oI p0, oI p1, oI p2, oI p3, oI p4, oI 3, oI ma0, oI ma1, oI ma2, oD (FP.i2d v0), oV, oD (FP.i2d v1), oV, oD (FP.i2d v2), oV, oR b255, oR b269, oI orr_284, oR b286, oI 1, oI ma0, oI ma2, .val (.int (((3 : Int32) - ma0) - ma2)), oI (own_h110 x)] [(.ref b286), (.int o0_284)] _
          refine XS.iconst X380.here hx rfl (hb hby at_474) ?_
          show own_S p e below T380 m 475 _ [(.int 0), (.ref b286), (.int o0_284)] _
          refine X380.iaload hx (j := (0 : Int32)) (v := (.int (own_p 0 (own_h110 x) (((3 : Int32) - ma0) - ma2) ma0))) (by rw [e380]; exact Ar385.1) (State.isArrayOf_alike hZ.alike Ar385.2.1) Ar385.2.2 hin386 hat386 (g := (mkF m 475 #[oI p0, oI p1, oI p2, oI p3, oI p4, oI 3, oI ma0, oI ma1, oI ma2, oD (FP.i2d v0), oV, oD (FP.i2d v1), oV, oD (FP.i2d v2), oV, oR b255, oR b269, oI orr_284, oR b286, oI 1, oI ma0, oI ma2, .val (.int (((3 : Int32) - ma0) - ma2)), oI (own_h110 x)] [(.int 0), (.ref b286), (.int o0_284)])) rfl rfl (hb hby at_475) _ ?_
          show own_S p e below T380 m 476 _ [(.int (own_p 0 (own_h110 x) (((3 : Int32) - ma0) - ma2) ma0)), (.int o0_284)] _
          refine XS.icmpNo X380.here hx rfl (hb hby at_476) rfl (teq ((hPF.1.symm.trans hE.1) : o0_284 = (own_p 0 (own_h110 x) (((3 : Int32) - ma0) - ma2) ma0))).2 ?_
          show own_S p e below T380 m 479 _ [] _
          refine XS.aload X380.here hx rfl (hb hby at_479) rfl rfl ?_
          show own_S p e below T380 m 481 _ [(.ref b255)] _
          refine XS.iconst X380.here hx rfl (hb hby at_481) ?_
          show own_S p e below T380 m 482 _ [(.int 1), (.ref b255)] _
          refine X380.iaload hx (j := (1 : Int32)) (v := (.int o1_284)) (by rw [e380]; exact Ar383.1) (State.isArrayOf_alike hZ.alike Ar383.2.1) Ar383.2.2 hin387 hat387 (g := (mkF m 482 #[oI p0, oI p1, oI p2, oI p3, oI p4, oI 3, oI ma0, oI ma1, oI ma2, oD (FP.i2d v0), oV, oD (FP.i2d v1), oV, oD (FP.i2d v2), oV, oR b255, oR b269, oI orr_284, oR b286, oI 1, oI ma0, oI ma2, .val (.int (((3 : Int32) - ma0) - ma2)), oI (own_h110 x)] [(.int 1), (.ref b255)])) rfl rfl (hb hby at_482) _ ?_
          show own_S p e below T380 m 483 _ [(.int o1_284)] _
          refine XS.aload X380.here hx rfl (hb hby at_483) rfl rfl ?_
          show own_S p e below T380 m 485 #[oI p0, oI p1, oI p2, oI p3, oI p4, oI 3, oI ma0, oI ma1, oI ma2, oD (FP.i2d v0), oV, oD (FP.i2d v1), oV, oD (FP.i2d v2), oV, oR b255, oR b269, oI orr_284, oR b286, oI 1, oI ma0, oI ma2, .val (.int (((3 : Int32) - ma0) - ma2)), oI (own_h110 x)] [(.ref b286), (.int o1_284)] _
          refine XS.iconst X380.here hx rfl (hb hby at_485) ?_
          show own_S p e below T380 m 486 _ [(.int 1), (.ref b286), (.int o1_284)] _
          refine X380.iaload hx (j := (1 : Int32)) (v := (.int (own_p 1 (own_h110 x) (((3 : Int32) - ma0) - ma2) ma1))) (by rw [e380]; exact Ar385.1) (State.isArrayOf_alike hZ.alike Ar385.2.1) Ar385.2.2 hin388 hat388 (g := (mkF m 486 #[oI p0, oI p1, oI p2, oI p3, oI p4, oI 3, oI ma0, oI ma1, oI ma2, oD (FP.i2d v0), oV, oD (FP.i2d v1), oV, oD (FP.i2d v2), oV, oR b255, oR b269, oI orr_284, oR b286, oI 1, oI ma0, oI ma2, .val (.int (((3 : Int32) - ma0) - ma2)), oI (own_h110 x)] [(.int 1), (.ref b286), (.int o1_284)])) rfl rfl (hb hby at_486) _ ?_
          show own_S p e below T380 m 487 _ [(.int (own_p 1 (own_h110 x) (((3 : Int32) - ma0) - ma2) ma1)), (.int o1_284)] _
          refine XS.icmpNo X380.here hx rfl (hb hby at_487) rfl (teq ((hPF.2.1.symm.trans hE.2.1) : o1_284 = (own_p 1 (own_h110 x) (((3 : Int32) - ma0) - ma2) ma1))).2 ?_
          show own_S p e below T380 m 490 _ [] _
          refine XS.aload X380.here hx rfl (hb hby at_490) rfl rfl ?_
          show own_S p e below T380 m 492 _ [(.ref b255)] _
          refine XS.iconst X380.here hx rfl (hb hby at_492) ?_
          show own_S p e below T380 m 493 _ [(.int 2), (.ref b255)] _
          refine X380.iaload hx (j := (2 : Int32)) (v := (.int o2_284)) (by rw [e380]; exact Ar383.1) (State.isArrayOf_alike hZ.alike Ar383.2.1) Ar383.2.2 hin389 hat389 (g := (mkF m 493 #[oI p0, oI p1, oI p2, oI p3, oI p4, oI 3, oI ma0, oI ma1, oI ma2, oD (FP.i2d v0), oV, oD (FP.i2d v1), oV, oD (FP.i2d v2), oV, oR b255, oR b269, oI orr_284, oR b286, oI 1, oI ma0, oI ma2, .val (.int (((3 : Int32) - ma0) - ma2)), oI (own_h110 x)] [(.int 2), (.ref b255)])) rfl rfl (hb hby at_493) _ ?_
          show own_S p e below T380 m 494 _ [(.int o2_284)] _
          refine XS.aload X380.here hx rfl (hb hby at_494) rfl rfl ?_
          show own_S p e below T380 m 496 #[oI p0, oI p1, oI p2, oI p3, oI p4, oI 3, oI ma0, oI ma1, oI ma2, oD (FP.i2d v0), oV, oD (FP.i2d v1), oV, oD (FP.i2d v2), oV, oR b255, oR b269, oI orr_284, oR b286, oI 1, oI ma0, oI ma2, .val (.int (((3 : Int32) - ma0) - ma2)), oI (own_h110 x)] [(.ref b286), (.int o2_284)] _
          refine XS.iconst X380.here hx rfl (hb hby at_496) ?_
          show own_S p e below T380 m 497 _ [(.int 2), (.ref b286), (.int o2_284)] _
          refine X380.iaload hx (j := (2 : Int32)) (v := (.int (own_p 2 (own_h110 x) (((3 : Int32) - ma0) - ma2) ma2))) (by rw [e380]; exact Ar385.1) (State.isArrayOf_alike hZ.alike Ar385.2.1) Ar385.2.2 hin390 hat390 (g := (mkF m 497 #[oI p0, oI p1, oI p2, oI p3, oI p4, oI 3, oI ma0, oI ma1, oI ma2, oD (FP.i2d v0), oV, oD (FP.i2d v1), oV, oD (FP.i2d v2), oV, oR b255, oR b269, oI orr_284, oR b286, oI 1, oI ma0, oI ma2, .val (.int (((3 : Int32) - ma0) - ma2)), oI (own_h110 x)] [(.int 2), (.ref b286), (.int o2_284)])) rfl rfl (hb hby at_497) _ ?_
          show own_S p e below T380 m 498 _ [(.int (own_p 2 (own_h110 x) (((3 : Int32) - ma0) - ma2) ma2)), (.int o2_284)] _
          refine XS.icmpNo X380.here hx rfl (hb hby at_498) rfl (teq ((hPF.2.2.1.symm.trans hE.2.2.1) : o2_284 = (own_p 2 (own_h110 x) (((3 : Int32) - ma0) - ma2) ma2))).2 ?_
          show own_S p e below T380 m 501 _ [] _
          refine XS.aload X380.here hx rfl (hb hby at_501) rfl rfl ?_
          show own_S p e below T380 m 503 _ [(.ref b269)] _
          refine XS.iconst X380.here hx rfl (hb hby at_503) ?_
          show own_S p e below T380 m 504 _ [(.int 0), (.ref b269)] _
          refine X380.daload hx (j := (0 : Int32)) (v := (.double (FP.i2d v0))) (by rw [e380]; exact Ar392.1) (State.isArrayOf_alike hZ.alike Ar392.2.1) Ar392.2.2 hin393 hat393 (g := (mkF m 504 #[oI p0, oI p1, oI p2, oI p3, oI p4, oI 3, oI ma0, oI ma1, oI ma2, oD (FP.i2d v0), oV, oD (FP.i2d v1), oV, oD (FP.i2d v2), oV, oR b255, oR b269, oI orr_284, oR b286, oI 1, oI ma0, oI ma2, .val (.int (((3 : Int32) - ma0) - ma2)), oI (own_h110 x)] [(.int 0), (.ref b269)])) rfl rfl (hb hby at_504) _ ?_
          show own_S p e below T380 m 505 _ [(.double (FP.i2d v0))] _
          refine XS.dload X380.here hx rfl (hb hby at_505) rfl ?_
          show own_S p e below T380 m 507 #[oI p0, oI p1, oI p2, oI p3, oI p4, oI 3, oI ma0, oI ma1, oI ma2, oD (FP.i2d v0), oV, oD (FP.i2d v1), oV, oD (FP.i2d v2), oV, oR b255, oR b269, oI orr_284, oR b286, oI 1, oI ma0, oI ma2, .val (.int (((3 : Int32) - ma0) - ma2)), oI (own_h110 x)] [(.double (FP.i2d v0)), (.double (FP.i2d v0))] _
          refine XS.dcmpS X380.here hx rfl (v := (0 : Int32)) (hb hby at_507) rfl (own_ieq (FP.Core.i2d_int v0) (FP.Core.i2d_int v0) rfl .l) ?_
          show own_S p e below T380 m 508 _ [(.int 0)] _
          refine XS.ifNo X380.here hx rfl (hb hby at_508) rfl ((if0 _ _).trans (teq (by decide : (0 : Int32) = (0 : Int32))).2) ?_
          show own_S p e below T380 m 511 _ [] _
          refine XS.aload X380.here hx rfl (hb hby at_511) rfl rfl ?_
          show own_S p e below T380 m 513 _ [(.ref b269)] _
          refine XS.iconst X380.here hx rfl (hb hby at_513) ?_
          show own_S p e below T380 m 514 _ [(.int 1), (.ref b269)] _
          refine X380.daload hx (j := (1 : Int32)) (v := (.double (FP.i2d v1))) (by rw [e380]; exact Ar392.1) (State.isArrayOf_alike hZ.alike Ar392.2.1) Ar392.2.2 hin394 hat394 (g := (mkF m 514 #[oI p0, oI p1, oI p2, oI p3, oI p4, oI 3, oI ma0, oI ma1, oI ma2, oD (FP.i2d v0), oV, oD (FP.i2d v1), oV, oD (FP.i2d v2), oV, oR b255, oR b269, oI orr_284, oR b286, oI 1, oI ma0, oI ma2, .val (.int (((3 : Int32) - ma0) - ma2)), oI (own_h110 x)] [(.int 1), (.ref b269)])) rfl rfl (hb hby at_514) _ ?_
          show own_S p e below T380 m 515 _ [(.double (FP.i2d v1))] _
          refine XS.dload X380.here hx rfl (hb hby at_515) rfl ?_
          show own_S p e below T380 m 517 _ [(.double (FP.i2d v1)), (.double (FP.i2d v1))] _
          refine XS.dcmpS X380.here hx rfl (v := (0 : Int32)) (hb hby at_517) rfl (own_ieq (FP.Core.i2d_int v1) (FP.Core.i2d_int v1) rfl .l) ?_
          show own_S p e below T380 m 518 #[oI p0, oI p1, oI p2, oI p3, oI p4, oI 3, oI ma0, oI ma1, oI ma2, oD (FP.i2d v0), oV, oD (FP.i2d v1), oV, oD (FP.i2d v2), oV, oR b255, oR b269, oI orr_284, oR b286, oI 1, oI ma0, oI ma2, .val (.int (((3 : Int32) - ma0) - ma2)), oI (own_h110 x)] [(.int 0)] _
          refine XS.ifNo X380.here hx rfl (hb hby at_518) rfl ((if0 _ _).trans (teq (by decide : (0 : Int32) = (0 : Int32))).2) ?_
          show own_S p e below T380 m 521 _ [] _
          refine XS.aload X380.here hx rfl (hb hby at_521) rfl rfl ?_
          show own_S p e below T380 m 523 _ [(.ref b269)] _
          refine XS.iconst X380.here hx rfl (hb hby at_523) ?_
          show own_S p e below T380 m 524 _ [(.int 2), (.ref b269)] _
          refine X380.daload hx (j := (2 : Int32)) (v := (.double (FP.i2d v2))) (by rw [e380]; exact Ar392.1) (State.isArrayOf_alike hZ.alike Ar392.2.1) Ar392.2.2 hin395 hat395 (g := (mkF m 524 #[oI p0, oI p1, oI p2, oI p3, oI p4, oI 3, oI ma0, oI ma1, oI ma2, oD (FP.i2d v0), oV, oD (FP.i2d v1), oV, oD (FP.i2d v2), oV, oR b255, oR b269, oI orr_284, oR b286, oI 1, oI ma0, oI ma2, .val (.int (((3 : Int32) - ma0) - ma2)), oI (own_h110 x)] [(.int 2), (.ref b269)])) rfl rfl (hb hby at_524) _ ?_
          show own_S p e below T380 m 525 _ [(.double (FP.i2d v2))] _
          refine XS.dload X380.here hx rfl (hb hby at_525) rfl ?_
          show own_S p e below T380 m 527 _ [(.double (FP.i2d v2)), (.double (FP.i2d v2))] _
          refine XS.dcmpS X380.here hx rfl (v := (0 : Int32)) (hb hby at_527) rfl (own_ieq (FP.Core.i2d_int v2) (FP.Core.i2d_int v2) rfl .l) ?_
          show own_S p e below T380 m 528 _ [(.int 0)] _
          refine XS.ifNo X380.here hx rfl (hb hby at_528) rfl ((if0 _ _).trans (teq (by decide : (0 : Int32) = (0 : Int32))).2) ?_
          show own_S p e below T380 m 531 #[oI p0, oI p1, oI p2, oI p3, oI p4, oI 3, oI ma0, oI ma1, oI ma2, oD (FP.i2d v0), oV, oD (FP.i2d v1), oV, oD (FP.i2d v2), oV, oR b255, oR b269, oI orr_284, oR b286, oI 1, oI ma0, oI ma2, .val (.int (((3 : Int32) - ma0) - ma2)), oI (own_h110 x)] [] _
          refine XS.iconst X380.here hx rfl (hb hby at_531) ?_
          show own_S p e below T380 m 532 _ [(.int 1)] _
          refine XS.goto X380.here hx rfl (pc0 := 532) (pc' := 536) rfl (hb hby at_532) (by decide) (by decide) ?_
          show own_S p e below T380 m 536 _ [(.int 1)] _
          exact retN X380 hx (t := .boolean) Bd.returns (by simp) (hb hby at_536) hr
        · show Qm0 Z p0 p1 p2 p3 p4 h0 n0 _ T380.heap _
          rw [e380]
          exact ⟨rfl, N380⟩
    · skip
      have pre396 : ∀ t, Steps p.tables e below (T298.setTop (mkF m 328 #[oI p0, oI p1, oI p2, oI p3, oI p4, oI 3, oI ma0, oI ma1, oI ma2, oD (FP.i2d v0), oV, oD (FP.i2d v1), oV, oD (FP.i2d v2), oV, oR b255, oR b269, oI orr_284, oR b286, oI 0, oU, oU, oU, oU] [(.int ma2), (.int ma1)])) t → Steps p.tables e below (s₁.setTop (mkF m 0 #[oI p0, oI p1, oI p2, oI p3, oI p4, oU, oU, oU, oU, oU, oU, oU, oU, oU, oU, oU, oU, oU, oU, oU, oU, oU, oU, oU] [])) t := by
        intro t kt
        refine pre300 _ ?_
        show own_S p e below T298 m 205 #[oI p0, oI p1, oI p2, oI p3, oI p4, oI 3, oI ma0, oI ma1, oI ma2, oD (FP.i2d v0), oV, oD (FP.i2d v1), oV, oD (FP.i2d v2), oV, oR b255, oR b269, oI orr_284, oR b286, oI 0, oU, oU, oU, oU] [(.int ma1), (.int ma0)] _
        refine XS.icmpYes X298.here hx rfl (pc0 := 205) (pc' := 317) rfl (hb hby at_205) rfl (feq (e01 : ¬ (ma0 = ma1))).2 (by decide) (by decide) ?_
        show own_S p e below T298 m 317 _ [] _
        refine XS.iload X298.here hx rfl (hb hby at_317) rfl ?_
        show own_S p e below T298 m 319 _ [(.int ma0)] _
        refine XS.iload X298.here hx rfl (hb hby at_319) rfl ?_
        show own_S p e below T298 m 321 _ [(.int ma1), (.int ma0)] _
        refine XS.icmpNo X298.here hx rfl (hb hby at_321) rfl (feq (e01 : ¬ (ma0 = ma1))).1 ?_
        show own_S p e below T298 m 324 _ [] _
        refine XS.iload X298.here hx rfl (hb hby at_324) rfl ?_
        show own_S p e below T298 m 326 _ [(.int ma1)] _
        refine XS.iload X298.here hx rfl (hb hby at_326) rfl ?_
        exact kt
      by_cases g12 : ma1 = ma2
      · skip
        obtain ⟨_, _, ⟨T397, L397, k397, n397⟩, -, X397, ⟨Lc397, hQ397, l397, y397, z397⟩, st397⟩ := Jvm.LawKit.callS X298 hx (y := (⟨"com/example/metasearch/metasearch/EmptyClustersFillPinLaw", "worst", "(ZZZDDD)I"⟩ : MethodName)) hown (mvT hZ (own_w hw 7 rfl)) (mvT hZ (own_w hw 8 rfl)) (mvT hZ (own_w hw 9 rfl)) (mvT hZ (own_w hw 10 rfl)) (by decide) (backOf (W := 0) (rmw011 l Z a0 hw [] (FP.i2d v0) (FP.i2d v1) (FP.i2d v2) x y z h298 n0 ZZ299 gx gy gz lx) hZ (own_w hw 10 rfl) (own_w hw 9 rfl) (by decide) (by decide)) (g := (mkF m 446 #[oI p0, oI p1, oI p2, oI p3, oI p4, oI 3, oI ma0, oI ma1, oI ma2, oD (FP.i2d v0), oV, oD (FP.i2d v1), oV, oD (FP.i2d v2), oV, oR b255, oR b269, oI orr_284, oR b286, oI 0, oI ma1, oI ma0, .val (.int (((3 : Int32) - ma1) - ma0)), oU] [(.double (FP.i2d v2)), (.double (FP.i2d v1)), (.double (FP.i2d v0)), (.int 1), (.int 1), (.int 0)])) rfl (by rw [hml]; rfl) (argsL := [(.int 0), (.int 1), (.int 1), (.double (FP.i2d v0)), (.double (FP.i2d v1)), (.double (FP.i2d v2))]) (rest := []) (lenOf pd1 rfl) rfl (by show 2 * 0 + _ ≤ _; exact Nat.le_of_eq rfl) (hb hby at_446) (fun _ _ => ⟨rfl, e298, (by decide : 4 + 0 ≤ _), (by decide : 12 + 0 ≤ _)⟩)
        dsimp only [Pt.U, Pt.locs, Pt.cells, Pt.slots] at X397 l397 y397 z397 st397 hQ397
        subst l397 y397 z397
        obtain ⟨rfl, Nq397, P397_0⟩ := hQ397
        have N397 := Fr.app N298 Nq397
        obtain ⟨cl398, Ar398, qk398, Sz398, Nz398, Hh398, Gg398⟩ := id Va298
        have hin399 : ¬ ((own_h011 z) < 0 ∨ cl398.slots.size ≤ ((own_h011 z)).toNatClampNeg) := inb_of Sz398 (own_b3 (own_h011r z))
        obtain ⟨T400, h400, X400, e400, W400, st400⟩ := stI X397 hx hZ P397_0 Ar398 (j := (own_h011 z)) hin399 (g := (mkF m 457 #[oI p0, oI p1, oI p2, oI p3, oI p4, oI 3, oI ma0, oI ma1, oI ma2, oD (FP.i2d v0), oV, oD (FP.i2d v1), oV, oD (FP.i2d v2), oV, oR b255, oR b269, oI orr_284, oR b286, oI 0, oI ma1, oI ma0, .val (.int (((3 : Int32) - ma1) - ma0)), oI (own_h011 z)] [(.int (((3 : Int32) - ma1) - ma0)), (.int (own_h011 z)), (.ref b286)])) rfl rfl (hb hby at_457)
        have Va400 := Arv.set Ar398 qk398 Sz398 Nz398 Hh398 Gg398 rfl W400 ((own_h011 z)).toNatClampNeg rfl (own_l3 (own_h011r z))
        have Vs400 : Arv Z h400 b286 k286 .int (3 : Int32) [(.int (own_p 0 (own_h011 z) (((3 : Int32) - ma1) - ma0) ma0)), (.int (own_p 1 (own_h011 z) (((3 : Int32) - ma1) - ma0) ma1)), (.int (own_p 2 (own_h011 z) (((3 : Int32) - ma1) - ma0) ma2))] (.int 0) := by rw [← (own_s3 (own_h011r z) : ([(.int ma0), (.int ma1), (.int ma2)] : List Value).set ((own_h011 z)).toNatClampNeg (.int (((3 : Int32) - ma1) - ma0)) = [(.int (own_p 0 (own_h011 z) (((3 : Int32) - ma1) - ma0) ma0)), (.int (own_p 1 (own_h011 z) (((3 : Int32) - ma1) - ma0) ma1)), (.int (own_p 2 (own_h011 z) (((3 : Int32) - ma1) - ma0) ma2))])]; exact Va400
        have N400 := Fr.snoc X400 N397 g_b286
        have ZZ401 : n0 ≤ h400.size := Nat.le_trans ZZ299 (Nat.le_of_eq W400.size.symm)
        have hE := own_E3B x y z ra0 ra1 ra2 e01 g12
        have Fc402 := (((((P284_1.ext E286).other W290 (Nat.ne_of_lt (Nat.lt_of_lt_of_le P284_1.lt (Nat.le_of_eq g286.symm)))).other W294 (Nat.ne_of_lt (Nat.lt_of_lt_of_le P284_1.lt (Nat.le_of_eq g286.symm)))).other W298 (Nat.ne_of_lt (Nat.lt_of_lt_of_le P284_1.lt (Nat.le_of_eq g286.symm)))).other W400 (Nat.ne_of_lt (Nat.lt_of_lt_of_le P284_1.lt (Nat.le_of_eq g286.symm))))
        obtain ⟨cl403, Ar403, qk403, Sz403, Nz403, Hh403, Gg403⟩ := id Fc402
        have hin404 : ¬ ((0 : Int32) < 0 ∨ cl403.slots.size ≤ ((0 : Int32)).toNatClampNeg) := inb_of Sz403 ⟨by decide, by decide⟩
        have hat404 : cl403.slots[((0 : Int32)).toNatClampNeg]? = some (.int o0_284) := Has.at Hh403 hin404 rfl
        obtain ⟨cl405, Ar405, qk405, Sz405, Nz405, Hh405, Gg405⟩ := id Vs400
        have hin406 : ¬ ((0 : Int32) < 0 ∨ cl405.slots.size ≤ ((0 : Int32)).toNatClampNeg) := inb_of Sz405 ⟨by decide, by decide⟩
        have hat406 : cl405.slots[((0 : Int32)).toNatClampNeg]? = some (.int (own_p 0 (own_h011 z) (((3 : Int32) - ma1) - ma0) ma0)) := Has.at Hh405 hin406 rfl
        have hin407 : ¬ ((1 : Int32) < 0 ∨ cl403.slots.size ≤ ((1 : Int32)).toNatClampNeg) := inb_of Sz403 ⟨by decide, by decide⟩
        have hat407 : cl403.slots[((1 : Int32)).toNatClampNeg]? = some (.int o1_284) := Has.at Hh403 hin407 rfl
        have hin408 : ¬ ((1 : Int32) < 0 ∨ cl405.slots.size ≤ ((1 : Int32)).toNatClampNeg) := inb_of Sz405 ⟨by decide, by decide⟩
        have hat408 : cl405.slots[((1 : Int32)).toNatClampNeg]? = some (.int (own_p 1 (own_h011 z) (((3 : Int32) - ma1) - ma0) ma1)) := Has.at Hh405 hin408 rfl
        have hin409 : ¬ ((2 : Int32) < 0 ∨ cl403.slots.size ≤ ((2 : Int32)).toNatClampNeg) := inb_of Sz403 ⟨by decide, by decide⟩
        have hat409 : cl403.slots[((2 : Int32)).toNatClampNeg]? = some (.int o2_284) := Has.at Hh403 hin409 rfl
        have hin410 : ¬ ((2 : Int32) < 0 ∨ cl405.slots.size ≤ ((2 : Int32)).toNatClampNeg) := inb_of Sz405 ⟨by decide, by decide⟩
        have hat410 : cl405.slots[((2 : Int32)).toNatClampNeg]? = some (.int (own_p 2 (own_h011 z) (((3 : Int32) - ma1) - ma0) ma2)) := Has.at Hh405 hin410 rfl
        have Fc411 := ((((((Va281.keep P284_0 (ninS (Ne.symm (Nat.ne_of_lt (Nat.lt_of_lt_of_le Va267.lt (Nat.le_of_eq g269.symm)))) nin0)).ext E286).other W290 (Nat.ne_of_lt (Nat.lt_of_lt_of_le (Va281.keep P284_0 (ninS (Ne.symm (Nat.ne_of_lt (Nat.lt_of_lt_of_le Va267.lt (Nat.le_of_eq g269.symm)))) nin0)).lt (Nat.le_of_eq g286.symm)))).other W294 (Nat.ne_of_lt (Nat.lt_of_lt_of_le (Va281.keep P284_0 (ninS (Ne.symm (Nat.ne_of_lt (Nat.lt_of_lt_of_le Va267.lt (Nat.le_of_eq g269.symm)))) nin0)).lt (Nat.le_of_eq g286.symm)))).other W298 (Nat.ne_of_lt (Nat.lt_of_lt_of_le (Va281.keep P284_0 (ninS (Ne.symm (Nat.ne_of_lt (Nat.lt_of_lt_of_le Va267.lt (Nat.le_of_eq g269.symm)))) nin0)).lt (Nat.le_of_eq g286.symm)))).other W400 (Nat.ne_of_lt (Nat.lt_of_lt_of_le (Va281.keep P284_0 (ninS (Ne.symm (Nat.ne_of_lt (Nat.lt_of_lt_of_le Va267.lt (Nat.le_of_eq g269.symm)))) nin0)).lt (Nat.le_of_eq g286.symm))))
        obtain ⟨cl412, Ar412, qk412, Sz412, Nz412, Hh412, Gg412⟩ := id Fc411
        have hin413 : ¬ ((0 : Int32) < 0 ∨ cl412.slots.size ≤ ((0 : Int32)).toNatClampNeg) := inb_of Sz412 ⟨by decide, by decide⟩
        have hat413 : cl412.slots[((0 : Int32)).toNatClampNeg]? = some (.double (FP.i2d v0)) := Has.at Hh412 hin413 rfl
        have hin414 : ¬ ((1 : Int32) < 0 ∨ cl412.slots.size ≤ ((1 : Int32)).toNatClampNeg) := inb_of Sz412 ⟨by decide, by decide⟩
        have hat414 : cl412.slots[((1 : Int32)).toNatClampNeg]? = some (.double (FP.i2d v1)) := Has.at Hh412 hin414 rfl
        have hin415 : ¬ ((2 : Int32) < 0 ∨ cl412.slots.size ≤ ((2 : Int32)).toNatClampNeg) := inb_of Sz412 ⟨by decide, by decide⟩
        have hat415 : cl412.slots[((2 : Int32)).toNatClampNeg]? = some (.double (FP.i2d v2)) := Has.at Hh412 hin415 rfl
        obtain ⟨fs, hr, hrun, hended, hW, hsame⟩ := X400.leave (v := some (.int 1)) (fun h => by rw [Bd.returns] at h; cases h)
        refine ⟨_, _, pre0 _ (pre396 _ ?_), hrun, hended, _, _, rfl, ?_, ⟨_, rfl⟩, hW, hsame.mono (by decide) (by decide)⟩
        · show own_S p e below T298 m 328 #[oI p0, oI p1, oI p2, oI p3, oI p4, oI 3, oI ma0, oI ma1, oI ma2, oD (FP.i2d v0), oV, oD (FP.i2d v1), oV, oD (FP.i2d v2), oV, oR b255, oR b269, oI orr_284, oR b286, oI 0, oU, oU, oU, oU] [(.int ma2), (.int ma1)] _
          refine XS.icmpYes X298.here hx rfl (pc0 := 328) (pc' := 344) rfl (hb hby at_328) rfl (teq (g12 : ma1 = ma2)).1 (by decide) (by decide) ?_
          show own_S p e below T298 m 344 _ [] _
          refine XS.iload X298.here hx rfl (hb hby at_344) rfl ?_
          show own_S p e below T298 m 346 _ [(.int ma0)] _
          refine XS.iload X298.here hx rfl (hb hby at_346) rfl ?_
          show own_S p e below T298 m 348 _ [(.int ma1), (.int ma0)] _
          refine XS.icmpNo X298.here hx rfl (hb hby at_348) rfl (feq (e01 : ¬ (ma0 = ma1))).1 ?_
          show own_S p e below T298 m 351 _ [] _
          refine XS.iload X298.here hx rfl (hb hby at_351) rfl ?_
          show own_S p e below T298 m 353 _ [(.int ma0)] _
          refine XS.iload X298.here hx rfl (hb hby at_353) rfl ?_
          show own_S p e below T298 m 355 _ [(.int ma2), (.int ma0)] _
          refine XS.icmpYes X298.here hx rfl (pc0 := 355) (pc' := 363) rfl (hb hby at_355) rfl (feq ((fun q => e01 (q.trans g12.symm)) : ¬ (ma0 = ma2))).2 (by decide) (by decide) ?_
          show own_S p e below T298 m 363 #[oI p0, oI p1, oI p2, oI p3, oI p4, oI 3, oI ma0, oI ma1, oI ma2, oD (FP.i2d v0), oV, oD (FP.i2d v1), oV, oD (FP.i2d v2), oV, oR b255, oR b269, oI orr_284, oR b286, oI 0, oU, oU, oU, oU] [] _
          refine XS.iload X298.here hx rfl (hb hby at_363) rfl ?_
          show own_S p e below T298 m 365 _ [(.int ma1)] _
          refine XS.istore X298.here hx rfl (hb hby at_365) rfl (l' := #[oI p0, oI p1, oI p2, oI p3, oI p4, oI 3, oI ma0, oI ma1, oI ma2, oD (FP.i2d v0), oV, oD (FP.i2d v1), oV, oD (FP.i2d v2), oV, oR b255, oR b269, oI orr_284, oR b286, oI 0, oI ma1, oU, oU, oU]) rfl ?_
          show own_S p e below T298 m 367 #[oI p0, oI p1, oI p2, oI p3, oI p4, oI 3, oI ma0, oI ma1, oI ma2, oD (FP.i2d v0), oV, oD (FP.i2d v1), oV, oD (FP.i2d v2), oV, oR b255, oR b269, oI orr_284, oR b286, oI 0, oI ma1, oU, oU, oU] [] _
          refine XS.iload X298.here hx rfl (hb hby at_367) rfl ?_
          show own_S p e below T298 m 369 _ [(.int ma0)] _
          refine XS.iload X298.here hx rfl (hb hby at_369) rfl ?_
          show own_S p e below T298 m 371 _ [(.int ma1), (.int ma0)] _
          refine XS.icmpYes X298.here hx rfl (pc0 := 371) (pc' := 379) rfl (hb hby at_371) rfl (feq (e01 : ¬ (ma0 = ma1))).2 (by decide) (by decide) ?_
          show own_S p e below T298 m 379 _ [] _
          refine XS.iload X298.here hx rfl (hb hby at_379) rfl ?_
          show own_S p e below T298 m 381 _ [(.int ma0)] _
          refine XS.iload X298.here hx rfl (hb hby at_381) rfl ?_
          show own_S p e below T298 m 383 _ [(.int ma2), (.int ma0)] _
          refine XS.icmpYes X298.here hx rfl (pc0 := 383) (pc' := 391) rfl (hb hby at_383) rfl (feq ((fun q => e01 (q.trans g12.symm)) : ¬ (ma0 = ma2))).2 (by decide) (by decide) ?_
          show own_S p e below T298 m 391 _ [] _
          refine XS.iload X298.here hx rfl (hb hby at_391) rfl ?_
          show own_S p e below T298 m 393 #[oI p0, oI p1, oI p2, oI p3, oI p4, oI 3, oI ma0, oI ma1, oI ma2, oD (FP.i2d v0), oV, oD (FP.i2d v1), oV, oD (FP.i2d v2), oV, oR b255, oR b269, oI orr_284, oR b286, oI 0, oI ma1, oU, oU, oU] [(.int ma0)] _
          refine XS.istore X298.here hx rfl (hb hby at_393) rfl (l' := #[oI p0, oI p1, oI p2, oI p3, oI p4, oI 3, oI ma0, oI ma1, oI ma2, oD (FP.i2d v0), oV, oD (FP.i2d v1), oV, oD (FP.i2d v2), oV, oR b255, oR b269, oI orr_284, oR b286, oI 0, oI ma1, oI ma0, oU, oU]) rfl ?_
          show own_S p e below T298 m 395 #[oI p0, oI p1, oI p2, oI p3, oI p4, oI 3, oI ma0, oI ma1, oI ma2, oD (FP.i2d v0), oV, oD (FP.i2d v1), oV, oD (FP.i2d v2), oV, oR b255, oR b269, oI orr_284, oR b286, oI 0, oI ma1, oI ma0, oU, oU] [] _
          refine XS.iconst X298.here hx rfl (hb hby at_395) ?_
          show own_S p e below T298 m 396 _ [(.int 3)] _
          refine XS.iload X298.here hx rfl (hb hby at_396) rfl ?_
          show own_S p e below T298 m 398 _ [(.int ma1), (.int 3)] _
          refine XS.isub X298.here hx rfl (hb hby at_398) rfl ?_
          show own_S p e below T298 m 399 _ [(.int ((3 : Int32) - ma1))] _
          refine XS.iload X298.here hx rfl (hb hby at_399) rfl ?_
          show own_S p e below T298 m 401 _ [(.int ma0), (.int ((3 : Int32) - ma1))] _
          refine XS.isub X298.here hx rfl (hb hby at_401) rfl ?_
          show own_S p e below T298 m 402 _ [(.int (((3 : Int32) - ma1) - ma0))] _
          refine XS.istore X298.here hx rfl (hb hby at_402) rfl (l' := #[oI p0, oI p1, oI p2, oI p3, oI p4, oI 3, oI ma0, oI ma1, oI ma2, oD (FP.i2d v0), oV, oD (FP.i2d v1), oV, oD (FP.i2d v2), oV, oR b255, oR b269, oI orr_284, oR b286, oI 0, oI ma1, oI ma0, .val (.int (((3 : Int32) - ma1) - ma0)), oU]) rfl ?_
          show own_S p e below T298 m 404 #[oI p0, oI p1, oI p2, oI p3, oI p4, oI 3, oI ma0, oI ma1, oI ma2, oD (FP.i2d v0), oV, oD (FP.i2d v1), oV, oD (FP.i2d v2), oV, oR b255, oR b269, oI orr_284, oR b286, oI 0, oI ma1, oI ma0, .val (.int (((3 : Int32) - ma1) - ma0)), oU] [] _
          refine XS.iload X298.here hx rfl (hb hby at_404) rfl ?_
          show own_S p e below T298 m 406 _ [(.int ma0)] _
          refine XS.iload X298.here hx rfl (hb hby at_406) rfl ?_
          show own_S p e below T298 m 408 _ [(.int ma1), (.int ma0)] _
          refine XS.icmpYes X298.here hx rfl (pc0 := 408) (pc' := 415) rfl (hb hby at_408) rfl (feq (e01 : ¬ (ma0 = ma1))).2 (by decide) (by decide) ?_
          show own_S p e below T298 m 415 _ [] _
          refine XS.iconst X298.here hx rfl (hb hby at_415) ?_
          show own_S p e below T298 m 416 _ [(.int 0)] _
          refine XS.iload X298.here hx rfl (hb hby at_416) rfl ?_
          show own_S p e below T298 m 418 _ [(.int ma1), (.int 0)] _
          refine XS.iload X298.here hx rfl (hb hby at_418) rfl ?_
          show own_S p e below T298 m 420 _ [(.int ma1), (.int ma1), (.int 0)] _
          refine XS.icmpNo X298.here hx rfl (hb hby at_420) rfl (teq (rfl : ma1 = ma1)).2 ?_
          show own_S p e below T298 m 423 #[oI p0, oI p1, oI p2, oI p3, oI p4, oI 3, oI ma0, oI ma1, oI ma2, oD (FP.i2d v0), oV, oD (FP.i2d v1), oV, oD (FP.i2d v2), oV, oR b255, oR b269, oI orr_284, oR b286, oI 0, oI ma1, oI ma0, .val (.int (((3 : Int32) - ma1) - ma0)), oU] [(.int 0)] _
          refine XS.iconst X298.here hx rfl (hb hby at_423) ?_
          show own_S p e below T298 m 424 _ [(.int 1), (.int 0)] _
          refine XS.goto X298.here hx rfl (pc0 := 424) (pc' := 428) rfl (hb hby at_424) (by decide) (by decide) ?_
          show own_S p e below T298 m 428 _ [(.int 1), (.int 0)] _
          refine XS.iload X298.here hx rfl (hb hby at_428) rfl ?_
          show own_S p e below T298 m 430 _ [(.int ma2), (.int 1), (.int 0)] _
          refine XS.iload X298.here hx rfl (hb hby at_430) rfl ?_
          show own_S p e below T298 m 432 _ [(.int ma1), (.int ma2), (.int 1), (.int 0)] _
          refine XS.icmpNo X298.here hx rfl (hb hby at_432) rfl (teq (g12.symm : ma2 = ma1)).2 ?_
          show own_S p e below T298 m 435 _ [(.int 1), (.int 0)] _
          refine XS.iconst X298.here hx rfl (hb hby at_435) ?_
          show own_S p e below T298 m 436 _ [(.int 1), (.int 1), (.int 0)] _
          refine XS.goto X298.here hx rfl (pc0 := 436) (pc' := 440) rfl (hb hby at_436) (by decide) (by decide) ?_
          show own_S p e below T298 m 440 #[oI p0, oI p1, oI p2, oI p3, oI p4, oI 3, oI ma0, oI ma1, oI ma2, oD (FP.i2d v0), oV, oD (FP.i2d v1), oV, oD (FP.i2d v2), oV, oR b255, oR b269, oI orr_284, oR b286, oI 0, oI ma1, oI ma0, .val (.int (((3 : Int32) - ma1) - ma0)), oU] [(.int 1), (.int 1), (.int 0)] _
          refine XS.dload X298.here hx rfl (hb hby at_440) rfl ?_
          show own_S p e below T298 m 442 _ [(.double (FP.i2d v0)), (.int 1), (.int 1), (.int 0)] _
          refine XS.dload X298.here hx rfl (hb hby at_442) rfl ?_
          show own_S p e below T298 m 444 _ [(.double (FP.i2d v1)), (.double (FP.i2d v0)), (.int 1), (.int 1), (.int 0)] _
          refine XS.dload X298.here hx rfl (hb hby at_444) rfl ?_
          show own_S p e below T298 m 446 _ [(.double (FP.i2d v2)), (.double (FP.i2d v1)), (.double (FP.i2d v0)), (.int 1), (.int 1), (.int 0)] _
          refine st397 _ ?_
          show own_S p e below T397 m 449 _ [(.int (own_h011 z))] _
          refine XS.istore X397.here hx rfl (hb hby at_449) rfl (l' := #[oI p0, oI p1, oI p2, oI p3, oI p4, oI 3, oI ma0, oI ma1, oI ma2, oD (FP.i2d v0), oV, oD (FP.i2d v1), oV, oD (FP.i2d v2), oV, oR b255, oR b269, oI orr_284, oR b286, oI 0, oI ma1, oI ma0, .val (.int (((3 : Int32) - ma1) - ma0)), oI (own_h011 z)]) rfl ?_
          show own_S p e below T397 m 451 #[oI p0, oI p1, oI p2, oI p3, oI p4, oI 3, oI ma0, oI ma1, oI ma2, oD (FP.i2d v0), oV, oD (FP.i2d v1), oV, oD (FP.i2d v2), oV, oR b255, oR b269, oI orr_284, oR b286, oI 0, oI ma1, oI ma0, .val (.int (((3 : Int32) - ma1) - ma0)), oI (own_h011 z)] [] _
          refine XS.aload X397.here hx rfl (hb hby at_451) rfl rfl ?_
          show own_S p e below T397 m 453 _ [(.ref b286)] _
          refine XS.iload X397.here hx rfl (hb hby at_453) rfl ?_
          show own_S p e below T397 m 455 _ [(.int (own_h011 z)), (.ref b286)] _
          refine XS.iload X397.here hx rfl (hb hby at_455) rfl ?_
          show own_S p e below T397 m 457 _ [(.int (((3 : Int32) - ma1) - ma0)), (.int (own_h011 z)), (.ref b286)] _
          refine st400 _ ?_
          show own_S p e below T400 m 458 _ [] _
          refine XS.iconst X400.here hx rfl (hb hby at_458) ?_
          show own_S p e below T400 m 459 _ [(.int 1)] _
          refine XS.istore X400.here hx rfl (hb hby at_459) rfl (l' := #[oI p0, oI p1, oI p2, oI p3, oI p4, oI 3, oI ma0, oI ma1, oI ma2, oD (FP.i2d v0), oV, oD (FP.i2d v1), oV, oD (FP.i2d v2), oV, oR b255, oR b269, oI orr_284, oR b286, oI 1, oI ma1, oI ma0, .val (.int (((3 : Int32) - ma1) - ma0)), oI (own_h011 z)]) rfl ?_
          show own_S p e below T400 m 461 #[oI p0, oI p1, oI p2, oI p3, oI p4, oI 3, oI ma0, oI ma1, oI ma2, oD (FP.i2d v0), oV, oD (FP.i2d v1), oV, oD (FP.i2d v2), oV, oR b255, oR b269, oI orr_284, oR b286, oI 1, oI ma1, oI ma0, .val (.int (((3 : Int32) - ma1) - ma0)), oI (own_h011 z)] [] _
          refine XS.iload X400.here hx rfl (hb hby at_461) rfl ?_
          show own_S p e below T400 m 463 _ [(.int orr_284)] _
          refine XS.iload X400.here hx rfl (hb hby at_463) rfl ?_
          show own_S p e below T400 m 465 _ [(.int 1), (.int orr_284)] _
          refine XS.icmpNo X400.here hx rfl (hb hby at_465) rfl (teq ((hPF.2.2.2.symm.trans hE.2.2.2) : orr_284 = (1 : Int32))).2 ?_
          show own_S p e below T400 m 468 _ [] _
          refine XS.aload X400.here hx rfl (hb hby at_468) rfl rfl ?_
          show own_S p e below T400 m 470 _ [(.ref b255)] _
          refine XS.iconst X400.here hx rfl (hb hby at_470) ?_
          show own_S p e below T400 m 471 _ [(.int 0), (.ref b255)] _
          refine X400.iaload hx (j := (0 : Int32)) (v := (.int o0_284)) (by rw [e400]; exact Ar403.1) (State.isArrayOf_alike hZ.alike Ar403.2.1) Ar403.2.2 hin404 hat404 (g := (mkF m 471 #[oI p0, oI p1, oI p2, oI p3, oI p4, oI 3, oI ma0, oI ma1, oI ma2, oD (FP.i2d v0), oV, oD (FP.i2d v1), oV, oD (FP.i2d v2), oV, oR b255, oR b269, oI orr_284, oR b286, oI 1, oI ma1, oI ma0, .val (.int (((3 : Int32) - ma1) - ma0)), oI (own_h011 z)] [(.int 0), (.ref b255)])) rfl rfl (hb hby at_471) _ ?_
          show own_S p e below T400 m 472 _ [(.int o0_284)] _
          refine XS.aload X400.here hx rfl (hb hby at_472) rfl rfl ?_
          show own_S p e below T400 m 474 #[oI p0, oI p1, oI p2, oI p3, oI p4, oI 3, oI ma0, oI ma1, oI ma2, oD (FP.i2d v0), oV, oD (FP.i2d v1), oV, oD (FP.i2d v2), oV, oR b255, oR b269, oI orr_284, oR b286, oI 1, oI ma1, oI ma0, .val (.int (((3 : Int32) - ma1) - ma0)), oI (own_h011 z)] [(.ref b286), (.int o0_284)] _
          refine XS.iconst X400.here hx rfl (hb hby at_474) ?_
          show own_S p e below T400 m 475 _ [(.int 0), (.ref b286), (.int o0_284)] _
          refine X400.iaload hx (j := (0 : Int32)) (v := (.int (own_p 0 (own_h011 z) (((3 : Int32) - ma1) - ma0) ma0))) (by rw [e400]; exact Ar405.1) (State.isArrayOf_alike hZ.alike Ar405.2.1) Ar405.2.2 hin406 hat406 (g := (mkF m 475 #[oI p0, oI p1, oI p2, oI p3, oI p4, oI 3, oI ma0, oI ma1, oI ma2, oD (FP.i2d v0), oV, oD (FP.i2d v1), oV, oD (FP.i2d v2), oV, oR b255, oR b269, oI orr_284, oR b286, oI 1, oI ma1, oI ma0, .val (.int (((3 : Int32) - ma1) - ma0)), oI (own_h011 z)] [(.int 0), (.ref b286), (.int o0_284)])) rfl rfl (hb hby at_475) _ ?_
          show own_S p e below T400 m 476 _ [(.int (own_p 0 (own_h011 z) (((3 : Int32) - ma1) - ma0) ma0)), (.int o0_284)] _
          refine XS.icmpNo X400.here hx rfl (hb hby at_476) rfl (teq ((hPF.1.symm.trans hE.1) : o0_284 = (own_p 0 (own_h011 z) (((3 : Int32) - ma1) - ma0) ma0))).2 ?_
          show own_S p e below T400 m 479 _ [] _
          refine XS.aload X400.here hx rfl (hb hby at_479) rfl rfl ?_
          show own_S p e below T400 m 481 _ [(.ref b255)] _
          refine XS.iconst X400.here hx rfl (hb hby at_481) ?_
          show own_S p e below T400 m 482 _ [(.int 1), (.ref b255)] _
          refine X400.iaload hx (j := (1 : Int32)) (v := (.int o1_284)) (by rw [e400]; exact Ar403.1) (State.isArrayOf_alike hZ.alike Ar403.2.1) Ar403.2.2 hin407 hat407 (g := (mkF m 482 #[oI p0, oI p1, oI p2, oI p3, oI p4, oI 3, oI ma0, oI ma1, oI ma2, oD (FP.i2d v0), oV, oD (FP.i2d v1), oV, oD (FP.i2d v2), oV, oR b255, oR b269, oI orr_284, oR b286, oI 1, oI ma1, oI ma0, .val (.int (((3 : Int32) - ma1) - ma0)), oI (own_h011 z)] [(.int 1), (.ref b255)])) rfl rfl (hb hby at_482) _ ?_
          show own_S p e below T400 m 483 _ [(.int o1_284)] _
          refine XS.aload X400.here hx rfl (hb hby at_483) rfl rfl ?_
          show own_S p e below T400 m 485 #[oI p0, oI p1, oI p2, oI p3, oI p4, oI 3, oI ma0, oI ma1, oI ma2, oD (FP.i2d v0), oV, oD (FP.i2d v1), oV, oD (FP.i2d v2), oV, oR b255, oR b269, oI orr_284, oR b286, oI 1, oI ma1, oI ma0, .val (.int (((3 : Int32) - ma1) - ma0)), oI (own_h011 z)] [(.ref b286), (.int o1_284)] _
          refine XS.iconst X400.here hx rfl (hb hby at_485) ?_
          show own_S p e below T400 m 486 _ [(.int 1), (.ref b286), (.int o1_284)] _
          refine X400.iaload hx (j := (1 : Int32)) (v := (.int (own_p 1 (own_h011 z) (((3 : Int32) - ma1) - ma0) ma1))) (by rw [e400]; exact Ar405.1) (State.isArrayOf_alike hZ.alike Ar405.2.1) Ar405.2.2 hin408 hat408 (g := (mkF m 486 #[oI p0, oI p1, oI p2, oI p3, oI p4, oI 3, oI ma0, oI ma1, oI ma2, oD (FP.i2d v0), oV, oD (FP.i2d v1), oV, oD (FP.i2d v2), oV, oR b255, oR b269, oI orr_284, oR b286, oI 1, oI ma1, oI ma0, .val (.int (((3 : Int32) - ma1) - ma0)), oI (own_h011 z)] [(.int 1), (.ref b286), (.int o1_284)])) rfl rfl (hb hby at_486) _ ?_
          show own_S p e below T400 m 487 _ [(.int (own_p 1 (own_h011 z) (((3 : Int32) - ma1) - ma0) ma1)), (.int o1_284)] _
          refine XS.icmpNo X400.here hx rfl (hb hby at_487) rfl (teq ((hPF.2.1.symm.trans hE.2.1) : o1_284 = (own_p 1 (own_h011 z) (((3 : Int32) - ma1) - ma0) ma1))).2 ?_
          show own_S p e below T400 m 490 _ [] _
          refine XS.aload X400.here hx rfl (hb hby at_490) rfl rfl ?_
          show own_S p e below T400 m 492 _ [(.ref b255)] _
          refine XS.iconst X400.here hx rfl (hb hby at_492) ?_
          show own_S p e below T400 m 493 _ [(.int 2), (.ref b255)] _
          refine X400.iaload hx (j := (2 : Int32)) (v := (.int o2_284)) (by rw [e400]; exact Ar403.1) (State.isArrayOf_alike hZ.alike Ar403.2.1) Ar403.2.2 hin409 hat409 (g := (mkF m 493 #[oI p0, oI p1, oI p2, oI p3, oI p4, oI 3, oI ma0, oI ma1, oI ma2, oD (FP.i2d v0), oV, oD (FP.i2d v1), oV, oD (FP.i2d v2), oV, oR b255, oR b269, oI orr_284, oR b286, oI 1, oI ma1, oI ma0, .val (.int (((3 : Int32) - ma1) - ma0)), oI (own_h011 z)] [(.int 2), (.ref b255)])) rfl rfl (hb hby at_493) _ ?_
          show own_S p e below T400 m 494 _ [(.int o2_284)] _
          refine XS.aload X400.here hx rfl (hb hby at_494) rfl rfl ?_
          show own_S p e below T400 m 496 #[oI p0, oI p1, oI p2, oI p3, oI p4, oI 3, oI ma0, oI ma1, oI ma2, oD (FP.i2d v0), oV, oD (FP.i2d v1), oV, oD (FP.i2d v2), oV, oR b255, oR b269, oI orr_284, oR b286, oI 1, oI ma1, oI ma0, .val (.int (((3 : Int32) - ma1) - ma0)), oI (own_h011 z)] [(.ref b286), (.int o2_284)] _
          refine XS.iconst X400.here hx rfl (hb hby at_496) ?_
          show own_S p e below T400 m 497 _ [(.int 2), (.ref b286), (.int o2_284)] _
          refine X400.iaload hx (j := (2 : Int32)) (v := (.int (own_p 2 (own_h011 z) (((3 : Int32) - ma1) - ma0) ma2))) (by rw [e400]; exact Ar405.1) (State.isArrayOf_alike hZ.alike Ar405.2.1) Ar405.2.2 hin410 hat410 (g := (mkF m 497 #[oI p0, oI p1, oI p2, oI p3, oI p4, oI 3, oI ma0, oI ma1, oI ma2, oD (FP.i2d v0), oV, oD (FP.i2d v1), oV, oD (FP.i2d v2), oV, oR b255, oR b269, oI orr_284, oR b286, oI 1, oI ma1, oI ma0, .val (.int (((3 : Int32) - ma1) - ma0)), oI (own_h011 z)] [(.int 2), (.ref b286), (.int o2_284)])) rfl rfl (hb hby at_497) _ ?_
          show own_S p e below T400 m 498 _ [(.int (own_p 2 (own_h011 z) (((3 : Int32) - ma1) - ma0) ma2)), (.int o2_284)] _
          refine XS.icmpNo X400.here hx rfl (hb hby at_498) rfl (teq ((hPF.2.2.1.symm.trans hE.2.2.1) : o2_284 = (own_p 2 (own_h011 z) (((3 : Int32) - ma1) - ma0) ma2))).2 ?_
          show own_S p e below T400 m 501 _ [] _
          refine XS.aload X400.here hx rfl (hb hby at_501) rfl rfl ?_
          show own_S p e below T400 m 503 _ [(.ref b269)] _
          refine XS.iconst X400.here hx rfl (hb hby at_503) ?_
          show own_S p e below T400 m 504 _ [(.int 0), (.ref b269)] _
          refine X400.daload hx (j := (0 : Int32)) (v := (.double (FP.i2d v0))) (by rw [e400]; exact Ar412.1) (State.isArrayOf_alike hZ.alike Ar412.2.1) Ar412.2.2 hin413 hat413 (g := (mkF m 504 #[oI p0, oI p1, oI p2, oI p3, oI p4, oI 3, oI ma0, oI ma1, oI ma2, oD (FP.i2d v0), oV, oD (FP.i2d v1), oV, oD (FP.i2d v2), oV, oR b255, oR b269, oI orr_284, oR b286, oI 1, oI ma1, oI ma0, .val (.int (((3 : Int32) - ma1) - ma0)), oI (own_h011 z)] [(.int 0), (.ref b269)])) rfl rfl (hb hby at_504) _ ?_
          show own_S p e below T400 m 505 _ [(.double (FP.i2d v0))] _
          refine XS.dload X400.here hx rfl (hb hby at_505) rfl ?_
          show own_S p e below T400 m 507 #[oI p0, oI p1, oI p2, oI p3, oI p4, oI 3, oI ma0, oI ma1, oI ma2, oD (FP.i2d v0), oV, oD (FP.i2d v1), oV, oD (FP.i2d v2), oV, oR b255, oR b269, oI orr_284, oR b286, oI 1, oI ma1, oI ma0, .val (.int (((3 : Int32) - ma1) - ma0)), oI (own_h011 z)] [(.double (FP.i2d v0)), (.double (FP.i2d v0))] _
          refine XS.dcmpS X400.here hx rfl (v := (0 : Int32)) (hb hby at_507) rfl (own_ieq (FP.Core.i2d_int v0) (FP.Core.i2d_int v0) rfl .l) ?_
          show own_S p e below T400 m 508 _ [(.int 0)] _
          refine XS.ifNo X400.here hx rfl (hb hby at_508) rfl ((if0 _ _).trans (teq (by decide : (0 : Int32) = (0 : Int32))).2) ?_
          show own_S p e below T400 m 511 _ [] _
          refine XS.aload X400.here hx rfl (hb hby at_511) rfl rfl ?_
          show own_S p e below T400 m 513 _ [(.ref b269)] _
          refine XS.iconst X400.here hx rfl (hb hby at_513) ?_
          show own_S p e below T400 m 514 _ [(.int 1), (.ref b269)] _
          refine X400.daload hx (j := (1 : Int32)) (v := (.double (FP.i2d v1))) (by rw [e400]; exact Ar412.1) (State.isArrayOf_alike hZ.alike Ar412.2.1) Ar412.2.2 hin414 hat414 (g := (mkF m 514 #[oI p0, oI p1, oI p2, oI p3, oI p4, oI 3, oI ma0, oI ma1, oI ma2, oD (FP.i2d v0), oV, oD (FP.i2d v1), oV, oD (FP.i2d v2), oV, oR b255, oR b269, oI orr_284, oR b286, oI 1, oI ma1, oI ma0, .val (.int (((3 : Int32) - ma1) - ma0)), oI (own_h011 z)] [(.int 1), (.ref b269)])) rfl rfl (hb hby at_514) _ ?_
          show own_S p e below T400 m 515 _ [(.double (FP.i2d v1))] _
          refine XS.dload X400.here hx rfl (hb hby at_515) rfl ?_
          show own_S p e below T400 m 517 _ [(.double (FP.i2d v1)), (.double (FP.i2d v1))] _
          refine XS.dcmpS X400.here hx rfl (v := (0 : Int32)) (hb hby at_517) rfl (own_ieq (FP.Core.i2d_int v1) (FP.Core.i2d_int v1) rfl .l) ?_
          show own_S p e below T400 m 518 #[oI p0, oI p1, oI p2, oI p3, oI p4, oI 3, oI ma0, oI ma1, oI ma2, oD (FP.i2d v0), oV, oD (FP.i2d v1), oV, oD (FP.i2d v2), oV, oR b255, oR b269, oI orr_284, oR b286, oI 1, oI ma1, oI ma0, .val (.int (((3 : Int32) - ma1) - ma0)), oI (own_h011 z)] [(.int 0)] _
          refine XS.ifNo X400.here hx rfl (hb hby at_518) rfl ((if0 _ _).trans (teq (by decide : (0 : Int32) = (0 : Int32))).2) ?_
          show own_S p e below T400 m 521 _ [] _
          refine XS.aload X400.here hx rfl (hb hby at_521) rfl rfl ?_
          show own_S p e below T400 m 523 _ [(.ref b269)] _
          refine XS.iconst X400.here hx rfl (hb hby at_523) ?_
          show own_S p e below T400 m 524 _ [(.int 2), (.ref b269)] _
          refine X400.daload hx (j := (2 : Int32)) (v := (.double (FP.i2d v2))) (by rw [e400]; exact Ar412.1) (State.isArrayOf_alike hZ.alike Ar412.2.1) Ar412.2.2 hin415 hat415 (g := (mkF m 524 #[oI p0, oI p1, oI p2, oI p3, oI p4, oI 3, oI ma0, oI ma1, oI ma2, oD (FP.i2d v0), oV, oD (FP.i2d v1), oV, oD (FP.i2d v2), oV, oR b255, oR b269, oI orr_284, oR b286, oI 1, oI ma1, oI ma0, .val (.int (((3 : Int32) - ma1) - ma0)), oI (own_h011 z)] [(.int 2), (.ref b269)])) rfl rfl (hb hby at_524) _ ?_
          show own_S p e below T400 m 525 _ [(.double (FP.i2d v2))] _
          refine XS.dload X400.here hx rfl (hb hby at_525) rfl ?_
          show own_S p e below T400 m 527 _ [(.double (FP.i2d v2)), (.double (FP.i2d v2))] _
          refine XS.dcmpS X400.here hx rfl (v := (0 : Int32)) (hb hby at_527) rfl (own_ieq (FP.Core.i2d_int v2) (FP.Core.i2d_int v2) rfl .l) ?_
          show own_S p e below T400 m 528 _ [(.int 0)] _
          refine XS.ifNo X400.here hx rfl (hb hby at_528) rfl ((if0 _ _).trans (teq (by decide : (0 : Int32) = (0 : Int32))).2) ?_
          show own_S p e below T400 m 531 #[oI p0, oI p1, oI p2, oI p3, oI p4, oI 3, oI ma0, oI ma1, oI ma2, oD (FP.i2d v0), oV, oD (FP.i2d v1), oV, oD (FP.i2d v2), oV, oR b255, oR b269, oI orr_284, oR b286, oI 1, oI ma1, oI ma0, .val (.int (((3 : Int32) - ma1) - ma0)), oI (own_h011 z)] [] _
          refine XS.iconst X400.here hx rfl (hb hby at_531) ?_
          show own_S p e below T400 m 532 _ [(.int 1)] _
          refine XS.goto X400.here hx rfl (pc0 := 532) (pc' := 536) rfl (hb hby at_532) (by decide) (by decide) ?_
          show own_S p e below T400 m 536 _ [(.int 1)] _
          exact retN X400 hx (t := .boolean) Bd.returns (by simp) (hb hby at_536) hr
        · show Qm0 Z p0 p1 p2 p3 p4 h0 n0 _ T400.heap _
          rw [e400]
          exact ⟨rfl, N400⟩
      · skip
        have pre416 : ∀ t, Steps p.tables e below (T298.setTop (mkF m 335 #[oI p0, oI p1, oI p2, oI p3, oI p4, oI 3, oI ma0, oI ma1, oI ma2, oD (FP.i2d v0), oV, oD (FP.i2d v1), oV, oD (FP.i2d v2), oV, oR b255, oR b269, oI orr_284, oR b286, oI 0, oU, oU, oU, oU] [(.int ma2), (.int ma0)])) t → Steps p.tables e below (s₁.setTop (mkF m 0 #[oI p0, oI p1, oI p2, oI p3, oI p4, oU, oU, oU, oU, oU, oU, oU, oU, oU, oU, oU, oU, oU, oU, oU, oU, oU, oU, oU] [])) t := by
          intro t kt
          refine pre396 _ ?_
          show own_S p e below T298 m 328 #[oI p0, oI p1, oI p2, oI p3, oI p4, oI 3, oI ma0, oI ma1, oI ma2, oD (FP.i2d v0), oV, oD (FP.i2d v1), oV, oD (FP.i2d v2), oV, oR b255, oR b269, oI orr_284, oR b286, oI 0, oU, oU, oU, oU] [(.int ma2), (.int ma1)] _
          refine XS.icmpNo X298.here hx rfl (hb hby at_328) rfl (feq (g12 : ¬ (ma1 = ma2))).1 ?_
          show own_S p e below T298 m 331 _ [] _
          refine XS.iload X298.here hx rfl (hb hby at_331) rfl ?_
          show own_S p e below T298 m 333 _ [(.int ma0)] _
          refine XS.iload X298.here hx rfl (hb hby at_333) rfl ?_
          exact kt
        by_cases g02 : ma0 = ma2
        · skip
          obtain ⟨_, _, ⟨T417, L417, k417, n417⟩, -, X417, ⟨Lc417, hQ417, l417, y417, z417⟩, st417⟩ := Jvm.LawKit.callS X298 hx (y := (⟨"com/example/metasearch/metasearch/EmptyClustersFillPinLaw", "worst", "(ZZZDDD)I"⟩ : MethodName)) hown (mvT hZ (own_w hw 7 rfl)) (mvT hZ (own_w hw 8 rfl)) (mvT hZ (own_w hw 9 rfl)) (mvT hZ (own_w hw 10 rfl)) (by decide) (backOf (W := 0) (rmw101 l Z a0 hw [] (FP.i2d v0) (FP.i2d v1) (FP.i2d v2) x y z h298 n0 ZZ299 gx gy gz lx) hZ (own_w hw 10 rfl) (own_w hw 9 rfl) (by decide) (by decide)) (g := (mkF m 446 #[oI p0, oI p1, oI p2, oI p3, oI p4, oI 3, oI ma0, oI ma1, oI ma2, oD (FP.i2d v0), oV, oD (FP.i2d v1), oV, oD (FP.i2d v2), oV, oR b255, oR b269, oI orr_284, oR b286, oI 0, oI ma0, oI ma1, .val (.int (((3 : Int32) - ma0) - ma1)), oU] [(.double (FP.i2d v2)), (.double (FP.i2d v1)), (.double (FP.i2d v0)), (.int 1), (.int 0), (.int 1)])) rfl (by rw [hml]; rfl) (argsL := [(.int 1), (.int 0), (.int 1), (.double (FP.i2d v0)), (.double (FP.i2d v1)), (.double (FP.i2d v2))]) (rest := []) (lenOf pd1 rfl) rfl (by show 2 * 0 + _ ≤ _; exact Nat.le_of_eq rfl) (hb hby at_446) (fun _ _ => ⟨rfl, e298, (by decide : 4 + 0 ≤ _), (by decide : 12 + 0 ≤ _)⟩)
          dsimp only [Pt.U, Pt.locs, Pt.cells, Pt.slots] at X417 l417 y417 z417 st417 hQ417
          subst l417 y417 z417
          obtain ⟨rfl, Nq417, P417_0⟩ := hQ417
          have N417 := Fr.app N298 Nq417
          obtain ⟨cl418, Ar418, qk418, Sz418, Nz418, Hh418, Gg418⟩ := id Va298
          have hin419 : ¬ ((own_h101 y) < 0 ∨ cl418.slots.size ≤ ((own_h101 y)).toNatClampNeg) := inb_of Sz418 (own_b3 (own_h101r y))
          obtain ⟨T420, h420, X420, e420, W420, st420⟩ := stI X417 hx hZ P417_0 Ar418 (j := (own_h101 y)) hin419 (g := (mkF m 457 #[oI p0, oI p1, oI p2, oI p3, oI p4, oI 3, oI ma0, oI ma1, oI ma2, oD (FP.i2d v0), oV, oD (FP.i2d v1), oV, oD (FP.i2d v2), oV, oR b255, oR b269, oI orr_284, oR b286, oI 0, oI ma0, oI ma1, .val (.int (((3 : Int32) - ma0) - ma1)), oI (own_h101 y)] [(.int (((3 : Int32) - ma0) - ma1)), (.int (own_h101 y)), (.ref b286)])) rfl rfl (hb hby at_457)
          have Va420 := Arv.set Ar418 qk418 Sz418 Nz418 Hh418 Gg418 rfl W420 ((own_h101 y)).toNatClampNeg rfl (own_l3 (own_h101r y))
          have Vs420 : Arv Z h420 b286 k286 .int (3 : Int32) [(.int (own_p 0 (own_h101 y) (((3 : Int32) - ma0) - ma1) ma0)), (.int (own_p 1 (own_h101 y) (((3 : Int32) - ma0) - ma1) ma1)), (.int (own_p 2 (own_h101 y) (((3 : Int32) - ma0) - ma1) ma2))] (.int 0) := by rw [← (own_s3 (own_h101r y) : ([(.int ma0), (.int ma1), (.int ma2)] : List Value).set ((own_h101 y)).toNatClampNeg (.int (((3 : Int32) - ma0) - ma1)) = [(.int (own_p 0 (own_h101 y) (((3 : Int32) - ma0) - ma1) ma0)), (.int (own_p 1 (own_h101 y) (((3 : Int32) - ma0) - ma1) ma1)), (.int (own_p 2 (own_h101 y) (((3 : Int32) - ma0) - ma1) ma2))])]; exact Va420
          have N420 := Fr.snoc X420 N417 g_b286
          have ZZ421 : n0 ≤ h420.size := Nat.le_trans ZZ299 (Nat.le_of_eq W420.size.symm)
          have hE := own_E3C x y z ra0 ra1 ra2 e01 g12 g02
          have Fc422 := (((((P284_1.ext E286).other W290 (Nat.ne_of_lt (Nat.lt_of_lt_of_le P284_1.lt (Nat.le_of_eq g286.symm)))).other W294 (Nat.ne_of_lt (Nat.lt_of_lt_of_le P284_1.lt (Nat.le_of_eq g286.symm)))).other W298 (Nat.ne_of_lt (Nat.lt_of_lt_of_le P284_1.lt (Nat.le_of_eq g286.symm)))).other W420 (Nat.ne_of_lt (Nat.lt_of_lt_of_le P284_1.lt (Nat.le_of_eq g286.symm))))
          obtain ⟨cl423, Ar423, qk423, Sz423, Nz423, Hh423, Gg423⟩ := id Fc422
          have hin424 : ¬ ((0 : Int32) < 0 ∨ cl423.slots.size ≤ ((0 : Int32)).toNatClampNeg) := inb_of Sz423 ⟨by decide, by decide⟩
          have hat424 : cl423.slots[((0 : Int32)).toNatClampNeg]? = some (.int o0_284) := Has.at Hh423 hin424 rfl
          obtain ⟨cl425, Ar425, qk425, Sz425, Nz425, Hh425, Gg425⟩ := id Vs420
          have hin426 : ¬ ((0 : Int32) < 0 ∨ cl425.slots.size ≤ ((0 : Int32)).toNatClampNeg) := inb_of Sz425 ⟨by decide, by decide⟩
          have hat426 : cl425.slots[((0 : Int32)).toNatClampNeg]? = some (.int (own_p 0 (own_h101 y) (((3 : Int32) - ma0) - ma1) ma0)) := Has.at Hh425 hin426 rfl
          have hin427 : ¬ ((1 : Int32) < 0 ∨ cl423.slots.size ≤ ((1 : Int32)).toNatClampNeg) := inb_of Sz423 ⟨by decide, by decide⟩
          have hat427 : cl423.slots[((1 : Int32)).toNatClampNeg]? = some (.int o1_284) := Has.at Hh423 hin427 rfl
          have hin428 : ¬ ((1 : Int32) < 0 ∨ cl425.slots.size ≤ ((1 : Int32)).toNatClampNeg) := inb_of Sz425 ⟨by decide, by decide⟩
          have hat428 : cl425.slots[((1 : Int32)).toNatClampNeg]? = some (.int (own_p 1 (own_h101 y) (((3 : Int32) - ma0) - ma1) ma1)) := Has.at Hh425 hin428 rfl
          have hin429 : ¬ ((2 : Int32) < 0 ∨ cl423.slots.size ≤ ((2 : Int32)).toNatClampNeg) := inb_of Sz423 ⟨by decide, by decide⟩
          have hat429 : cl423.slots[((2 : Int32)).toNatClampNeg]? = some (.int o2_284) := Has.at Hh423 hin429 rfl
          have hin430 : ¬ ((2 : Int32) < 0 ∨ cl425.slots.size ≤ ((2 : Int32)).toNatClampNeg) := inb_of Sz425 ⟨by decide, by decide⟩
          have hat430 : cl425.slots[((2 : Int32)).toNatClampNeg]? = some (.int (own_p 2 (own_h101 y) (((3 : Int32) - ma0) - ma1) ma2)) := Has.at Hh425 hin430 rfl
          have Fc431 := ((((((Va281.keep P284_0 (ninS (Ne.symm (Nat.ne_of_lt (Nat.lt_of_lt_of_le Va267.lt (Nat.le_of_eq g269.symm)))) nin0)).ext E286).other W290 (Nat.ne_of_lt (Nat.lt_of_lt_of_le (Va281.keep P284_0 (ninS (Ne.symm (Nat.ne_of_lt (Nat.lt_of_lt_of_le Va267.lt (Nat.le_of_eq g269.symm)))) nin0)).lt (Nat.le_of_eq g286.symm)))).other W294 (Nat.ne_of_lt (Nat.lt_of_lt_of_le (Va281.keep P284_0 (ninS (Ne.symm (Nat.ne_of_lt (Nat.lt_of_lt_of_le Va267.lt (Nat.le_of_eq g269.symm)))) nin0)).lt (Nat.le_of_eq g286.symm)))).other W298 (Nat.ne_of_lt (Nat.lt_of_lt_of_le (Va281.keep P284_0 (ninS (Ne.symm (Nat.ne_of_lt (Nat.lt_of_lt_of_le Va267.lt (Nat.le_of_eq g269.symm)))) nin0)).lt (Nat.le_of_eq g286.symm)))).other W420 (Nat.ne_of_lt (Nat.lt_of_lt_of_le (Va281.keep P284_0 (ninS (Ne.symm (Nat.ne_of_lt (Nat.lt_of_lt_of_le Va267.lt (Nat.le_of_eq g269.symm)))) nin0)).lt (Nat.le_of_eq g286.symm))))
          obtain ⟨cl432, Ar432, qk432, Sz432, Nz432, Hh432, Gg432⟩ := id Fc431
          have hin433 : ¬ ((0 : Int32) < 0 ∨ cl432.slots.size ≤ ((0 : Int32)).toNatClampNeg) := inb_of Sz432 ⟨by decide, by decide⟩
          have hat433 : cl432.slots[((0 : Int32)).toNatClampNeg]? = some (.double (FP.i2d v0)) := Has.at Hh432 hin433 rfl
          have hin434 : ¬ ((1 : Int32) < 0 ∨ cl432.slots.size ≤ ((1 : Int32)).toNatClampNeg) := inb_of Sz432 ⟨by decide, by decide⟩
          have hat434 : cl432.slots[((1 : Int32)).toNatClampNeg]? = some (.double (FP.i2d v1)) := Has.at Hh432 hin434 rfl
          have hin435 : ¬ ((2 : Int32) < 0 ∨ cl432.slots.size ≤ ((2 : Int32)).toNatClampNeg) := inb_of Sz432 ⟨by decide, by decide⟩
          have hat435 : cl432.slots[((2 : Int32)).toNatClampNeg]? = some (.double (FP.i2d v2)) := Has.at Hh432 hin435 rfl
          obtain ⟨fs, hr, hrun, hended, hW, hsame⟩ := X420.leave (v := some (.int 1)) (fun h => by rw [Bd.returns] at h; cases h)
          refine ⟨_, _, pre0 _ (pre416 _ ?_), hrun, hended, _, _, rfl, ?_, ⟨_, rfl⟩, hW, hsame.mono (by decide) (by decide)⟩
          · show own_S p e below T298 m 335 #[oI p0, oI p1, oI p2, oI p3, oI p4, oI 3, oI ma0, oI ma1, oI ma2, oD (FP.i2d v0), oV, oD (FP.i2d v1), oV, oD (FP.i2d v2), oV, oR b255, oR b269, oI orr_284, oR b286, oI 0, oU, oU, oU, oU] [(.int ma2), (.int ma0)] _
            refine XS.icmpYes X298.here hx rfl (pc0 := 335) (pc' := 344) rfl (hb hby at_335) rfl (teq (g02 : ma0 = ma2)).1 (by decide) (by decide) ?_
            show own_S p e below T298 m 344 _ [] _
            refine XS.iload X298.here hx rfl (hb hby at_344) rfl ?_
            show own_S p e below T298 m 346 _ [(.int ma0)] _
            refine XS.iload X298.here hx rfl (hb hby at_346) rfl ?_
            show own_S p e below T298 m 348 _ [(.int ma1), (.int ma0)] _
            refine XS.icmpNo X298.here hx rfl (hb hby at_348) rfl (feq (e01 : ¬ (ma0 = ma1))).1 ?_
            show own_S p e below T298 m 351 _ [] _
            refine XS.iload X298.here hx rfl (hb hby at_351) rfl ?_
            show own_S p e below T298 m 353 _ [(.int ma0)] _
            refine XS.iload X298.here hx rfl (hb hby at_353) rfl ?_
            show own_S p e below T298 m 355 _ [(.int ma2), (.int ma0)] _
            refine XS.icmpNo X298.here hx rfl (hb hby at_355) rfl (teq (g02 : ma0 = ma2)).2 ?_
            show own_S p e below T298 m 358 #[oI p0, oI p1, oI p2, oI p3, oI p4, oI 3, oI ma0, oI ma1, oI ma2, oD (FP.i2d v0), oV, oD (FP.i2d v1), oV, oD (FP.i2d v2), oV, oR b255, oR b269, oI orr_284, oR b286, oI 0, oU, oU, oU, oU] [] _
            refine XS.iload X298.here hx rfl (hb hby at_358) rfl ?_
            show own_S p e below T298 m 360 _ [(.int ma0)] _
            refine XS.goto X298.here hx rfl (pc0 := 360) (pc' := 365) rfl (hb hby at_360) (by decide) (by decide) ?_
            show own_S p e below T298 m 365 _ [(.int ma0)] _
            refine XS.istore X298.here hx rfl (hb hby at_365) rfl (l' := #[oI p0, oI p1, oI p2, oI p3, oI p4, oI 3, oI ma0, oI ma1, oI ma2, oD (FP.i2d v0), oV, oD (FP.i2d v1), oV, oD (FP.i2d v2), oV, oR b255, oR b269, oI orr_284, oR b286, oI 0, oI ma0, oU, oU, oU]) rfl ?_
            show own_S p e below T298 m 367 #[oI p0, oI p1, oI p2, oI p3, oI p4, oI 3, oI ma0, oI ma1, oI ma2, oD (FP.i2d v0), oV, oD (FP.i2d v1), oV, oD (FP.i2d v2), oV, oR b255, oR b269, oI orr_284, oR b286, oI 0, oI ma0, oU, oU, oU] [] _
            refine XS.iload X298.here hx rfl (hb hby at_367) rfl ?_
            show own_S p e below T298 m 369 _ [(.int ma0)] _
            refine XS.iload X298.here hx rfl (hb hby at_369) rfl ?_
            show own_S p e below T298 m 371 _ [(.int ma1), (.int ma0)] _
            refine XS.icmpYes X298.here hx rfl (pc0 := 371) (pc' := 379) rfl (hb hby at_371) rfl (feq (e01 : ¬ (ma0 = ma1))).2 (by decide) (by decide) ?_
            show own_S p e below T298 m 379 _ [] _
            refine XS.iload X298.here hx rfl (hb hby at_379) rfl ?_
            show own_S p e below T298 m 381 _ [(.int ma0)] _
            refine XS.iload X298.here hx rfl (hb hby at_381) rfl ?_
            show own_S p e below T298 m 383 _ [(.int ma2), (.int ma0)] _
            refine XS.icmpNo X298.here hx rfl (hb hby at_383) rfl (teq (g02 : ma0 = ma2)).2 ?_
            show own_S p e below T298 m 386 _ [] _
            refine XS.iload X298.here hx rfl (hb hby at_386) rfl ?_
            show own_S p e below T298 m 388 #[oI p0, oI p1, oI p2, oI p3, oI p4, oI 3, oI ma0, oI ma1, oI ma2, oD (FP.i2d v0), oV, oD (FP.i2d v1), oV, oD (FP.i2d v2), oV, oR b255, oR b269, oI orr_284, oR b286, oI 0, oI ma0, oU, oU, oU] [(.int ma1)] _
            refine XS.goto X298.here hx rfl (pc0 := 388) (pc' := 393) rfl (hb hby at_388) (by decide) (by decide) ?_
            show own_S p e below T298 m 393 _ [(.int ma1)] _
            refine XS.istore X298.here hx rfl (hb hby at_393) rfl (l' := #[oI p0, oI p1, oI p2, oI p3, oI p4, oI 3, oI ma0, oI ma1, oI ma2, oD (FP.i2d v0), oV, oD (FP.i2d v1), oV, oD (FP.i2d v2), oV, oR b255, oR b269, oI orr_284, oR b286, oI 0, oI ma0, oI ma1, oU, oU]) rfl ?_
            show own_S p e below T298 m 395 #[oI p0, oI p1, oI p2, oI p3, oI p4, oI 3, oI ma0, oI ma1, oI ma2, oD (FP.i2d v0), oV, oD (FP.i2d v1), oV, oD (FP.i2d v2), oV, oR b255, oR b269, oI orr_284, oR b286, oI 0, oI ma0, oI ma1, oU, oU] [] _
            refine XS.iconst X298.here hx rfl (hb hby at_395) ?_
            show own_S p e below T298 m 396 _ [(.int 3)] _
            refine XS.iload X298.here hx rfl (hb hby at_396) rfl ?_
            show own_S p e below T298 m 398 _ [(.int ma0), (.int 3)] _
            refine XS.isub X298.here hx rfl (hb hby at_398) rfl ?_
            show own_S p e below T298 m 399 _ [(.int ((3 : Int32) - ma0))] _
            refine XS.iload X298.here hx rfl (hb hby at_399) rfl ?_
            show own_S p e below T298 m 401 _ [(.int ma1), (.int ((3 : Int32) - ma0))] _
            refine XS.isub X298.here hx rfl (hb hby at_401) rfl ?_
            show own_S p e below T298 m 402 _ [(.int (((3 : Int32) - ma0) - ma1))] _
            refine XS.istore X298.here hx rfl (hb hby at_402) rfl (l' := #[oI p0, oI p1, oI p2, oI p3, oI p4, oI 3, oI ma0, oI ma1, oI ma2, oD (FP.i2d v0), oV, oD (FP.i2d v1), oV, oD (FP.i2d v2), oV, oR b255, oR b269, oI orr_284, oR b286, oI 0, oI ma0, oI ma1, .val (.int (((3 : Int32) - ma0) - ma1)), oU]) rfl ?_
            show own_S p e below T298 m 404 #[oI p0, oI p1, oI p2, oI p3, oI p4, oI 3, oI ma0, oI ma1, oI ma2, oD (FP.i2d v0), oV, oD (FP.i2d v1), oV, oD (FP.i2d v2), oV, oR b255, oR b269, oI orr_284, oR b286, oI 0, oI ma0, oI ma1, .val (.int (((3 : Int32) - ma0) - ma1)), oU] [] _
            refine XS.iload X298.here hx rfl (hb hby at_404) rfl ?_
            show own_S p e below T298 m 406 _ [(.int ma0)] _
            refine XS.iload X298.here hx rfl (hb hby at_406) rfl ?_
            show own_S p e below T298 m 408 _ [(.int ma0), (.int ma0)] _
            refine XS.icmpNo X298.here hx rfl (hb hby at_408) rfl (teq (rfl : ma0 = ma0)).2 ?_
            show own_S p e below T298 m 411 _ [] _
            refine XS.iconst X298.here hx rfl (hb hby at_411) ?_
            show own_S p e below T298 m 412 _ [(.int 1)] _
            refine XS.goto X298.here hx rfl (pc0 := 412) (pc' := 416) rfl (hb hby at_412) (by decide) (by decide) ?_
            show own_S p e below T298 m 416 _ [(.int 1)] _
            refine XS.iload X298.here hx rfl (hb hby at_416) rfl ?_
            show own_S p e below T298 m 418 _ [(.int ma1), (.int 1)] _
            refine XS.iload X298.here hx rfl (hb hby at_418) rfl ?_
            show own_S p e below T298 m 420 #[oI p0, oI p1, oI p2, oI p3, oI p4, oI 3, oI ma0, oI ma1, oI ma2, oD (FP.i2d v0), oV, oD (FP.i2d v1), oV, oD (FP.i2d v2), oV, oR b255, oR b269, oI orr_284, oR b286, oI 0, oI ma0, oI ma1, .val (.int (((3 : Int32) - ma0) - ma1)), oU] [(.int ma0), (.int ma1), (.int 1)] _
            refine XS.icmpYes X298.here hx rfl (pc0 := 420) (pc' := 427) rfl (hb hby at_420) rfl (feq ((fun q => e01 q.symm) : ¬ (ma1 = ma0))).2 (by decide) (by decide) ?_
            show own_S p e below T298 m 427 _ [(.int 1)] _
            refine XS.iconst X298.here hx rfl (hb hby at_427) ?_
            show own_S p e below T298 m 428 _ [(.int 0), (.int 1)] _
            refine XS.iload X298.here hx rfl (hb hby at_428) rfl ?_
            show own_S p e below T298 m 430 _ [(.int ma2), (.int 0), (.int 1)] _
            refine XS.iload X298.here hx rfl (hb hby at_430) rfl ?_
            show own_S p e below T298 m 432 _ [(.int ma0), (.int ma2), (.int 0), (.int 1)] _
            refine XS.icmpNo X298.here hx rfl (hb hby at_432) rfl (teq (g02.symm : ma2 = ma0)).2 ?_
            show own_S p e below T298 m 435 _ [(.int 0), (.int 1)] _
            refine XS.iconst X298.here hx rfl (hb hby at_435) ?_
            show own_S p e below T298 m 436 _ [(.int 1), (.int 0), (.int 1)] _
            refine XS.goto X298.here hx rfl (pc0 := 436) (pc' := 440) rfl (hb hby at_436) (by decide) (by decide) ?_
            show own_S p e below T298 m 440 #[oI p0, oI p1, oI p2, oI p3, oI p4, oI 3, oI ma0, oI ma1, oI ma2, oD (FP.i2d v0), oV, oD (FP.i2d v1), oV, oD (FP.i2d v2), oV, oR b255, oR b269, oI orr_284, oR b286, oI 0, oI ma0, oI ma1, .val (.int (((3 : Int32) - ma0) - ma1)), oU] [(.int 1), (.int 0), (.int 1)] _
            refine XS.dload X298.here hx rfl (hb hby at_440) rfl ?_
            show own_S p e below T298 m 442 _ [(.double (FP.i2d v0)), (.int 1), (.int 0), (.int 1)] _
            refine XS.dload X298.here hx rfl (hb hby at_442) rfl ?_
            show own_S p e below T298 m 444 _ [(.double (FP.i2d v1)), (.double (FP.i2d v0)), (.int 1), (.int 0), (.int 1)] _
            refine XS.dload X298.here hx rfl (hb hby at_444) rfl ?_
            show own_S p e below T298 m 446 _ [(.double (FP.i2d v2)), (.double (FP.i2d v1)), (.double (FP.i2d v0)), (.int 1), (.int 0), (.int 1)] _
            refine st417 _ ?_
            show own_S p e below T417 m 449 _ [(.int (own_h101 y))] _
            refine XS.istore X417.here hx rfl (hb hby at_449) rfl (l' := #[oI p0, oI p1, oI p2, oI p3, oI p4, oI 3, oI ma0, oI ma1, oI ma2, oD (FP.i2d v0), oV, oD (FP.i2d v1), oV, oD (FP.i2d v2), oV, oR b255, oR b269, oI orr_284, oR b286, oI 0, oI ma0, oI ma1, .val (.int (((3 : Int32) - ma0) - ma1)), oI (own_h101 y)]) rfl ?_
            show own_S p e below T417 m 451 #[oI p0, oI p1, oI p2, oI p3, oI p4, oI 3, oI ma0, oI ma1, oI ma2, oD (FP.i2d v0), oV, oD (FP.i2d v1), oV, oD (FP.i2d v2), oV, oR b255, oR b269, oI orr_284, oR b286, oI 0, oI ma0, oI ma1, .val (.int (((3 : Int32) - ma0) - ma1)), oI (own_h101 y)] [] _
            refine XS.aload X417.here hx rfl (hb hby at_451) rfl rfl ?_
            show own_S p e below T417 m 453 _ [(.ref b286)] _
            refine XS.iload X417.here hx rfl (hb hby at_453) rfl ?_
            show own_S p e below T417 m 455 _ [(.int (own_h101 y)), (.ref b286)] _
            refine XS.iload X417.here hx rfl (hb hby at_455) rfl ?_
            show own_S p e below T417 m 457 _ [(.int (((3 : Int32) - ma0) - ma1)), (.int (own_h101 y)), (.ref b286)] _
            refine st420 _ ?_
            show own_S p e below T420 m 458 _ [] _
            refine XS.iconst X420.here hx rfl (hb hby at_458) ?_
            show own_S p e below T420 m 459 _ [(.int 1)] _
            refine XS.istore X420.here hx rfl (hb hby at_459) rfl (l' := #[oI p0, oI p1, oI p2, oI p3, oI p4, oI 3, oI ma0, oI ma1, oI ma2, oD (FP.i2d v0), oV, oD (FP.i2d v1), oV, oD (FP.i2d v2), oV, oR b255, oR b269, oI orr_284, oR b286, oI 1, oI ma0, oI ma1, .val (.int (((3 : Int32) - ma0) - ma1)), oI (own_h101 y)]) rfl ?_
            show own_S p e below T420 m 461 #[oI p0, oI p1, oI p2, oI p3, oI p4, oI 3, oI ma0, oI ma1, oI ma2, oD (FP.i2d v0), oV, oD (FP.i2d v1), oV, oD (FP.i2d v2), oV, oR b255, oR b269, oI orr_284, oR b286, oI 1, oI ma0, oI ma1, .val (.int (((3 : Int32) - ma0) - ma1)), oI (own_h101 y)] [] _
            refine XS.iload X420.here hx rfl (hb hby at_461) rfl ?_
            show own_S p e below T420 m 463 _ [(.int orr_284)] _
            refine XS.iload X420.here hx rfl (hb hby at_463) rfl ?_
            show own_S p e below T420 m 465 _ [(.int 1), (.int orr_284)] _
            refine XS.icmpNo X420.here hx rfl (hb hby at_465) rfl (teq ((hPF.2.2.2.symm.trans hE.2.2.2) : orr_284 = (1 : Int32))).2 ?_
            show own_S p e below T420 m 468 _ [] _
            refine XS.aload X420.here hx rfl (hb hby at_468) rfl rfl ?_
            show own_S p e below T420 m 470 _ [(.ref b255)] _
            refine XS.iconst X420.here hx rfl (hb hby at_470) ?_
            show own_S p e below T420 m 471 _ [(.int 0), (.ref b255)] _
            refine X420.iaload hx (j := (0 : Int32)) (v := (.int o0_284)) (by rw [e420]; exact Ar423.1) (State.isArrayOf_alike hZ.alike Ar423.2.1) Ar423.2.2 hin424 hat424 (g := (mkF m 471 #[oI p0, oI p1, oI p2, oI p3, oI p4, oI 3, oI ma0, oI ma1, oI ma2, oD (FP.i2d v0), oV, oD (FP.i2d v1), oV, oD (FP.i2d v2), oV, oR b255, oR b269, oI orr_284, oR b286, oI 1, oI ma0, oI ma1, .val (.int (((3 : Int32) - ma0) - ma1)), oI (own_h101 y)] [(.int 0), (.ref b255)])) rfl rfl (hb hby at_471) _ ?_
            show own_S p e below T420 m 472 _ [(.int o0_284)] _
            refine XS.aload X420.here hx rfl (hb hby at_472) rfl rfl ?_
            show own_S p e below T420 m 474 #[oI p0, oI p1, oI p2, oI p3, oI p4, oI 3, oI ma0, oI ma1, oI ma2, oD (FP.i2d v0), oV, oD (FP.i2d v1), oV, oD (FP.i2d v2), oV, oR b255, oR b269, oI orr_284, oR b286, oI 1, oI ma0, oI ma1, .val (.int (((3 : Int32) - ma0) - ma1)), oI (own_h101 y)] [(.ref b286), (.int o0_284)] _
            refine XS.iconst X420.here hx rfl (hb hby at_474) ?_
            show own_S p e below T420 m 475 _ [(.int 0), (.ref b286), (.int o0_284)] _
            refine X420.iaload hx (j := (0 : Int32)) (v := (.int (own_p 0 (own_h101 y) (((3 : Int32) - ma0) - ma1) ma0))) (by rw [e420]; exact Ar425.1) (State.isArrayOf_alike hZ.alike Ar425.2.1) Ar425.2.2 hin426 hat426 (g := (mkF m 475 #[oI p0, oI p1, oI p2, oI p3, oI p4, oI 3, oI ma0, oI ma1, oI ma2, oD (FP.i2d v0), oV, oD (FP.i2d v1), oV, oD (FP.i2d v2), oV, oR b255, oR b269, oI orr_284, oR b286, oI 1, oI ma0, oI ma1, .val (.int (((3 : Int32) - ma0) - ma1)), oI (own_h101 y)] [(.int 0), (.ref b286), (.int o0_284)])) rfl rfl (hb hby at_475) _ ?_
            show own_S p e below T420 m 476 _ [(.int (own_p 0 (own_h101 y) (((3 : Int32) - ma0) - ma1) ma0)), (.int o0_284)] _
            refine XS.icmpNo X420.here hx rfl (hb hby at_476) rfl (teq ((hPF.1.symm.trans hE.1) : o0_284 = (own_p 0 (own_h101 y) (((3 : Int32) - ma0) - ma1) ma0))).2 ?_
            show own_S p e below T420 m 479 _ [] _
            refine XS.aload X420.here hx rfl (hb hby at_479) rfl rfl ?_
            show own_S p e below T420 m 481 _ [(.ref b255)] _
            refine XS.iconst X420.here hx rfl (hb hby at_481) ?_
            show own_S p e below T420 m 482 _ [(.int 1), (.ref b255)] _
            refine X420.iaload hx (j := (1 : Int32)) (v := (.int o1_284)) (by rw [e420]; exact Ar423.1) (State.isArrayOf_alike hZ.alike Ar423.2.1) Ar423.2.2 hin427 hat427 (g := (mkF m 482 #[oI p0, oI p1, oI p2, oI p3, oI p4, oI 3, oI ma0, oI ma1, oI ma2, oD (FP.i2d v0), oV, oD (FP.i2d v1), oV, oD (FP.i2d v2), oV, oR b255, oR b269, oI orr_284, oR b286, oI 1, oI ma0, oI ma1, .val (.int (((3 : Int32) - ma0) - ma1)), oI (own_h101 y)] [(.int 1), (.ref b255)])) rfl rfl (hb hby at_482) _ ?_
            show own_S p e below T420 m 483 _ [(.int o1_284)] _
            refine XS.aload X420.here hx rfl (hb hby at_483) rfl rfl ?_
            show own_S p e below T420 m 485 #[oI p0, oI p1, oI p2, oI p3, oI p4, oI 3, oI ma0, oI ma1, oI ma2, oD (FP.i2d v0), oV, oD (FP.i2d v1), oV, oD (FP.i2d v2), oV, oR b255, oR b269, oI orr_284, oR b286, oI 1, oI ma0, oI ma1, .val (.int (((3 : Int32) - ma0) - ma1)), oI (own_h101 y)] [(.ref b286), (.int o1_284)] _
            refine XS.iconst X420.here hx rfl (hb hby at_485) ?_
            show own_S p e below T420 m 486 _ [(.int 1), (.ref b286), (.int o1_284)] _
            refine X420.iaload hx (j := (1 : Int32)) (v := (.int (own_p 1 (own_h101 y) (((3 : Int32) - ma0) - ma1) ma1))) (by rw [e420]; exact Ar425.1) (State.isArrayOf_alike hZ.alike Ar425.2.1) Ar425.2.2 hin428 hat428 (g := (mkF m 486 #[oI p0, oI p1, oI p2, oI p3, oI p4, oI 3, oI ma0, oI ma1, oI ma2, oD (FP.i2d v0), oV, oD (FP.i2d v1), oV, oD (FP.i2d v2), oV, oR b255, oR b269, oI orr_284, oR b286, oI 1, oI ma0, oI ma1, .val (.int (((3 : Int32) - ma0) - ma1)), oI (own_h101 y)] [(.int 1), (.ref b286), (.int o1_284)])) rfl rfl (hb hby at_486) _ ?_
            show own_S p e below T420 m 487 _ [(.int (own_p 1 (own_h101 y) (((3 : Int32) - ma0) - ma1) ma1)), (.int o1_284)] _
            refine XS.icmpNo X420.here hx rfl (hb hby at_487) rfl (teq ((hPF.2.1.symm.trans hE.2.1) : o1_284 = (own_p 1 (own_h101 y) (((3 : Int32) - ma0) - ma1) ma1))).2 ?_
            show own_S p e below T420 m 490 _ [] _
            refine XS.aload X420.here hx rfl (hb hby at_490) rfl rfl ?_
            show own_S p e below T420 m 492 _ [(.ref b255)] _
            refine XS.iconst X420.here hx rfl (hb hby at_492) ?_
            show own_S p e below T420 m 493 _ [(.int 2), (.ref b255)] _
            refine X420.iaload hx (j := (2 : Int32)) (v := (.int o2_284)) (by rw [e420]; exact Ar423.1) (State.isArrayOf_alike hZ.alike Ar423.2.1) Ar423.2.2 hin429 hat429 (g := (mkF m 493 #[oI p0, oI p1, oI p2, oI p3, oI p4, oI 3, oI ma0, oI ma1, oI ma2, oD (FP.i2d v0), oV, oD (FP.i2d v1), oV, oD (FP.i2d v2), oV, oR b255, oR b269, oI orr_284, oR b286, oI 1, oI ma0, oI ma1, .val (.int (((3 : Int32) - ma0) - ma1)), oI (own_h101 y)] [(.int 2), (.ref b255)])) rfl rfl (hb hby at_493) _ ?_
            show own_S p e below T420 m 494 _ [(.int o2_284)] _
            refine XS.aload X420.here hx rfl (hb hby at_494) rfl rfl ?_
            show own_S p e below T420 m 496 #[oI p0, oI p1, oI p2, oI p3, oI p4, oI 3, oI ma0, oI ma1, oI ma2, oD (FP.i2d v0), oV, oD (FP.i2d v1), oV, oD (FP.i2d v2), oV, oR b255, oR b269, oI orr_284, oR b286, oI 1, oI ma0, oI ma1, .val (.int (((3 : Int32) - ma0) - ma1)), oI (own_h101 y)] [(.ref b286), (.int o2_284)] _
            refine XS.iconst X420.here hx rfl (hb hby at_496) ?_
            show own_S p e below T420 m 497 _ [(.int 2), (.ref b286), (.int o2_284)] _
            refine X420.iaload hx (j := (2 : Int32)) (v := (.int (own_p 2 (own_h101 y) (((3 : Int32) - ma0) - ma1) ma2))) (by rw [e420]; exact Ar425.1) (State.isArrayOf_alike hZ.alike Ar425.2.1) Ar425.2.2 hin430 hat430 (g := (mkF m 497 #[oI p0, oI p1, oI p2, oI p3, oI p4, oI 3, oI ma0, oI ma1, oI ma2, oD (FP.i2d v0), oV, oD (FP.i2d v1), oV, oD (FP.i2d v2), oV, oR b255, oR b269, oI orr_284, oR b286, oI 1, oI ma0, oI ma1, .val (.int (((3 : Int32) - ma0) - ma1)), oI (own_h101 y)] [(.int 2), (.ref b286), (.int o2_284)])) rfl rfl (hb hby at_497) _ ?_
            show own_S p e below T420 m 498 _ [(.int (own_p 2 (own_h101 y) (((3 : Int32) - ma0) - ma1) ma2)), (.int o2_284)] _
            refine XS.icmpNo X420.here hx rfl (hb hby at_498) rfl (teq ((hPF.2.2.1.symm.trans hE.2.2.1) : o2_284 = (own_p 2 (own_h101 y) (((3 : Int32) - ma0) - ma1) ma2))).2 ?_
            show own_S p e below T420 m 501 _ [] _
            refine XS.aload X420.here hx rfl (hb hby at_501) rfl rfl ?_
            show own_S p e below T420 m 503 _ [(.ref b269)] _
            refine XS.iconst X420.here hx rfl (hb hby at_503) ?_
            show own_S p e below T420 m 504 _ [(.int 0), (.ref b269)] _
            refine X420.daload hx (j := (0 : Int32)) (v := (.double (FP.i2d v0))) (by rw [e420]; exact Ar432.1) (State.isArrayOf_alike hZ.alike Ar432.2.1) Ar432.2.2 hin433 hat433 (g := (mkF m 504 #[oI p0, oI p1, oI p2, oI p3, oI p4, oI 3, oI ma0, oI ma1, oI ma2, oD (FP.i2d v0), oV, oD (FP.i2d v1), oV, oD (FP.i2d v2), oV, oR b255, oR b269, oI orr_284, oR b286, oI 1, oI ma0, oI ma1, .val (.int (((3 : Int32) - ma0) - ma1)), oI (own_h101 y)] [(.int 0), (.ref b269)])) rfl rfl (hb hby at_504) _ ?_
            show own_S p e below T420 m 505 _ [(.double (FP.i2d v0))] _
            refine XS.dload X420.here hx rfl (hb hby at_505) rfl ?_
            show own_S p e below T420 m 507 #[oI p0, oI p1, oI p2, oI p3, oI p4, oI 3, oI ma0, oI ma1, oI ma2, oD (FP.i2d v0), oV, oD (FP.i2d v1), oV, oD (FP.i2d v2), oV, oR b255, oR b269, oI orr_284, oR b286, oI 1, oI ma0, oI ma1, .val (.int (((3 : Int32) - ma0) - ma1)), oI (own_h101 y)] [(.double (FP.i2d v0)), (.double (FP.i2d v0))] _
            refine XS.dcmpS X420.here hx rfl (v := (0 : Int32)) (hb hby at_507) rfl (own_ieq (FP.Core.i2d_int v0) (FP.Core.i2d_int v0) rfl .l) ?_
            show own_S p e below T420 m 508 _ [(.int 0)] _
            refine XS.ifNo X420.here hx rfl (hb hby at_508) rfl ((if0 _ _).trans (teq (by decide : (0 : Int32) = (0 : Int32))).2) ?_
            show own_S p e below T420 m 511 _ [] _
            refine XS.aload X420.here hx rfl (hb hby at_511) rfl rfl ?_
            show own_S p e below T420 m 513 _ [(.ref b269)] _
            refine XS.iconst X420.here hx rfl (hb hby at_513) ?_
            show own_S p e below T420 m 514 _ [(.int 1), (.ref b269)] _
            refine X420.daload hx (j := (1 : Int32)) (v := (.double (FP.i2d v1))) (by rw [e420]; exact Ar432.1) (State.isArrayOf_alike hZ.alike Ar432.2.1) Ar432.2.2 hin434 hat434 (g := (mkF m 514 #[oI p0, oI p1, oI p2, oI p3, oI p4, oI 3, oI ma0, oI ma1, oI ma2, oD (FP.i2d v0), oV, oD (FP.i2d v1), oV, oD (FP.i2d v2), oV, oR b255, oR b269, oI orr_284, oR b286, oI 1, oI ma0, oI ma1, .val (.int (((3 : Int32) - ma0) - ma1)), oI (own_h101 y)] [(.int 1), (.ref b269)])) rfl rfl (hb hby at_514) _ ?_
            show own_S p e below T420 m 515 _ [(.double (FP.i2d v1))] _
            refine XS.dload X420.here hx rfl (hb hby at_515) rfl ?_
            show own_S p e below T420 m 517 _ [(.double (FP.i2d v1)), (.double (FP.i2d v1))] _
            refine XS.dcmpS X420.here hx rfl (v := (0 : Int32)) (hb hby at_517) rfl (own_ieq (FP.Core.i2d_int v1) (FP.Core.i2d_int v1) rfl .l) ?_
            show own_S p e below T420 m 518 #[oI p0, oI p1, oI p2, oI p3, oI p4, oI 3, oI ma0, oI ma1, oI ma2, oD (FP.i2d v0), oV, oD (FP.i2d v1), oV, oD (FP.i2d v2), oV, oR b255, oR b269, oI orr_284, oR b286, oI 1, oI ma0, oI ma1, .val (.int (((3 : Int32) - ma0) - ma1)), oI (own_h101 y)] [(.int 0)] _
            refine XS.ifNo X420.here hx rfl (hb hby at_518) rfl ((if0 _ _).trans (teq (by decide : (0 : Int32) = (0 : Int32))).2) ?_
            show own_S p e below T420 m 521 _ [] _
            refine XS.aload X420.here hx rfl (hb hby at_521) rfl rfl ?_
            show own_S p e below T420 m 523 _ [(.ref b269)] _
            refine XS.iconst X420.here hx rfl (hb hby at_523) ?_
            show own_S p e below T420 m 524 _ [(.int 2), (.ref b269)] _
            refine X420.daload hx (j := (2 : Int32)) (v := (.double (FP.i2d v2))) (by rw [e420]; exact Ar432.1) (State.isArrayOf_alike hZ.alike Ar432.2.1) Ar432.2.2 hin435 hat435 (g := (mkF m 524 #[oI p0, oI p1, oI p2, oI p3, oI p4, oI 3, oI ma0, oI ma1, oI ma2, oD (FP.i2d v0), oV, oD (FP.i2d v1), oV, oD (FP.i2d v2), oV, oR b255, oR b269, oI orr_284, oR b286, oI 1, oI ma0, oI ma1, .val (.int (((3 : Int32) - ma0) - ma1)), oI (own_h101 y)] [(.int 2), (.ref b269)])) rfl rfl (hb hby at_524) _ ?_
            show own_S p e below T420 m 525 _ [(.double (FP.i2d v2))] _
            refine XS.dload X420.here hx rfl (hb hby at_525) rfl ?_
            show own_S p e below T420 m 527 _ [(.double (FP.i2d v2)), (.double (FP.i2d v2))] _
            refine XS.dcmpS X420.here hx rfl (v := (0 : Int32)) (hb hby at_527) rfl (own_ieq (FP.Core.i2d_int v2) (FP.Core.i2d_int v2) rfl .l) ?_
            show own_S p e below T420 m 528 _ [(.int 0)] _
            refine XS.ifNo X420.here hx rfl (hb hby at_528) rfl ((if0 _ _).trans (teq (by decide : (0 : Int32) = (0 : Int32))).2) ?_
            show own_S p e below T420 m 531 #[oI p0, oI p1, oI p2, oI p3, oI p4, oI 3, oI ma0, oI ma1, oI ma2, oD (FP.i2d v0), oV, oD (FP.i2d v1), oV, oD (FP.i2d v2), oV, oR b255, oR b269, oI orr_284, oR b286, oI 1, oI ma0, oI ma1, .val (.int (((3 : Int32) - ma0) - ma1)), oI (own_h101 y)] [] _
            refine XS.iconst X420.here hx rfl (hb hby at_531) ?_
            show own_S p e below T420 m 532 _ [(.int 1)] _
            refine XS.goto X420.here hx rfl (pc0 := 532) (pc' := 536) rfl (hb hby at_532) (by decide) (by decide) ?_
            show own_S p e below T420 m 536 _ [(.int 1)] _
            exact retN X420 hx (t := .boolean) Bd.returns (by simp) (hb hby at_536) hr
          · show Qm0 Z p0 p1 p2 p3 p4 h0 n0 _ T420.heap _
            rw [e420]
            exact ⟨rfl, N420⟩
        · skip
          have hE := own_E3n x y z ra0 ra1 ra2 e01 g12 g02
          have Fc436 := ((((P284_1.ext E286).other W290 (Nat.ne_of_lt (Nat.lt_of_lt_of_le P284_1.lt (Nat.le_of_eq g286.symm)))).other W294 (Nat.ne_of_lt (Nat.lt_of_lt_of_le P284_1.lt (Nat.le_of_eq g286.symm)))).other W298 (Nat.ne_of_lt (Nat.lt_of_lt_of_le P284_1.lt (Nat.le_of_eq g286.symm))))
          obtain ⟨cl437, Ar437, qk437, Sz437, Nz437, Hh437, Gg437⟩ := id Fc436
          have hin438 : ¬ ((0 : Int32) < 0 ∨ cl437.slots.size ≤ ((0 : Int32)).toNatClampNeg) := inb_of Sz437 ⟨by decide, by decide⟩
          have hat438 : cl437.slots[((0 : Int32)).toNatClampNeg]? = some (.int o0_284) := Has.at Hh437 hin438 rfl
          obtain ⟨cl439, Ar439, qk439, Sz439, Nz439, Hh439, Gg439⟩ := id Va298
          have hin440 : ¬ ((0 : Int32) < 0 ∨ cl439.slots.size ≤ ((0 : Int32)).toNatClampNeg) := inb_of Sz439 ⟨by decide, by decide⟩
          have hat440 : cl439.slots[((0 : Int32)).toNatClampNeg]? = some (.int ma0) := Has.at Hh439 hin440 rfl
          have hin441 : ¬ ((1 : Int32) < 0 ∨ cl437.slots.size ≤ ((1 : Int32)).toNatClampNeg) := inb_of Sz437 ⟨by decide, by decide⟩
          have hat441 : cl437.slots[((1 : Int32)).toNatClampNeg]? = some (.int o1_284) := Has.at Hh437 hin441 rfl
          have hin442 : ¬ ((1 : Int32) < 0 ∨ cl439.slots.size ≤ ((1 : Int32)).toNatClampNeg) := inb_of Sz439 ⟨by decide, by decide⟩
          have hat442 : cl439.slots[((1 : Int32)).toNatClampNeg]? = some (.int ma1) := Has.at Hh439 hin442 rfl
          have hin443 : ¬ ((2 : Int32) < 0 ∨ cl437.slots.size ≤ ((2 : Int32)).toNatClampNeg) := inb_of Sz437 ⟨by decide, by decide⟩
          have hat443 : cl437.slots[((2 : Int32)).toNatClampNeg]? = some (.int o2_284) := Has.at Hh437 hin443 rfl
          have hin444 : ¬ ((2 : Int32) < 0 ∨ cl439.slots.size ≤ ((2 : Int32)).toNatClampNeg) := inb_of Sz439 ⟨by decide, by decide⟩
          have hat444 : cl439.slots[((2 : Int32)).toNatClampNeg]? = some (.int ma2) := Has.at Hh439 hin444 rfl
          have Fc445 := (((((Va281.keep P284_0 (ninS (Ne.symm (Nat.ne_of_lt (Nat.lt_of_lt_of_le Va267.lt (Nat.le_of_eq g269.symm)))) nin0)).ext E286).other W290 (Nat.ne_of_lt (Nat.lt_of_lt_of_le (Va281.keep P284_0 (ninS (Ne.symm (Nat.ne_of_lt (Nat.lt_of_lt_of_le Va267.lt (Nat.le_of_eq g269.symm)))) nin0)).lt (Nat.le_of_eq g286.symm)))).other W294 (Nat.ne_of_lt (Nat.lt_of_lt_of_le (Va281.keep P284_0 (ninS (Ne.symm (Nat.ne_of_lt (Nat.lt_of_lt_of_le Va267.lt (Nat.le_of_eq g269.symm)))) nin0)).lt (Nat.le_of_eq g286.symm)))).other W298 (Nat.ne_of_lt (Nat.lt_of_lt_of_le (Va281.keep P284_0 (ninS (Ne.symm (Nat.ne_of_lt (Nat.lt_of_lt_of_le Va267.lt (Nat.le_of_eq g269.symm)))) nin0)).lt (Nat.le_of_eq g286.symm))))
          obtain ⟨cl446, Ar446, qk446, Sz446, Nz446, Hh446, Gg446⟩ := id Fc445
          have hin447 : ¬ ((0 : Int32) < 0 ∨ cl446.slots.size ≤ ((0 : Int32)).toNatClampNeg) := inb_of Sz446 ⟨by decide, by decide⟩
          have hat447 : cl446.slots[((0 : Int32)).toNatClampNeg]? = some (.double (FP.i2d v0)) := Has.at Hh446 hin447 rfl
          have hin448 : ¬ ((1 : Int32) < 0 ∨ cl446.slots.size ≤ ((1 : Int32)).toNatClampNeg) := inb_of Sz446 ⟨by decide, by decide⟩
          have hat448 : cl446.slots[((1 : Int32)).toNatClampNeg]? = some (.double (FP.i2d v1)) := Has.at Hh446 hin448 rfl
          have hin449 : ¬ ((2 : Int32) < 0 ∨ cl446.slots.size ≤ ((2 : Int32)).toNatClampNeg) := inb_of Sz446 ⟨by decide, by decide⟩
          have hat449 : cl446.slots[((2 : Int32)).toNatClampNeg]? = some (.double (FP.i2d v2)) := Has.at Hh446 hin449 rfl
          obtain ⟨fs, hr, hrun, hended, hW, hsame⟩ := X298.leave (v := some (.int 1)) (fun h => by rw [Bd.returns] at h; cases h)
          refine ⟨_, _, pre0 _ (pre416 _ ?_), hrun, hended, _, _, rfl, ?_, ⟨_, rfl⟩, hW, hsame.mono (by decide) (by decide)⟩
          · show own_S p e below T298 m 335 #[oI p0, oI p1, oI p2, oI p3, oI p4, oI 3, oI ma0, oI ma1, oI ma2, oD (FP.i2d v0), oV, oD (FP.i2d v1), oV, oD (FP.i2d v2), oV, oR b255, oR b269, oI orr_284, oR b286, oI 0, oU, oU, oU, oU] [(.int ma2), (.int ma0)] _
            refine XS.icmpNo X298.here hx rfl (hb hby at_335) rfl (feq (g02 : ¬ (ma0 = ma2))).1 ?_
            show own_S p e below T298 m 338 _ [] _
            refine XS.iconst X298.here hx rfl (hb hby at_338) ?_
            show own_S p e below T298 m 339 _ [(.int 0)] _
            refine XS.istore X298.here hx rfl (hb hby at_339) rfl (l' := #[oI p0, oI p1, oI p2, oI p3, oI p4, oI 3, oI ma0, oI ma1, oI ma2, oD (FP.i2d v0), oV, oD (FP.i2d v1), oV, oD (FP.i2d v2), oV, oR b255, oR b269, oI orr_284, oR b286, oI 0, oU, oU, oU, oU]) rfl ?_
            show own_S p e below T298 m 341 _ [] _
            refine XS.goto X298.here hx rfl (pc0 := 341) (pc' := 461) rfl (hb hby at_341) (by decide) (by decide) ?_
            show own_S p e below T298 m 461 _ [] _
            refine XS.iload X298.here hx rfl (hb hby at_461) rfl ?_
            show own_S p e below T298 m 463 _ [(.int orr_284)] _
            refine XS.iload X298.here hx rfl (hb hby at_463) rfl ?_
            show own_S p e below T298 m 465 _ [(.int 0), (.int orr_284)] _
            refine XS.icmpNo X298.here hx rfl (hb hby at_465) rfl (teq ((hPF.2.2.2.symm.trans hE.2.2.2) : orr_284 = (0 : Int32))).2 ?_
            show own_S p e below T298 m 468 #[oI p0, oI p1, oI p2, oI p3, oI p4, oI 3, oI ma0, oI ma1, oI ma2, oD (FP.i2d v0), oV, oD (FP.i2d v1), oV, oD (FP.i2d v2), oV, oR b255, oR b269, oI orr_284, oR b286, oI 0, oU, oU, oU, oU] [] _
            refine XS.aload X298.here hx rfl (hb hby at_468) rfl rfl ?_
            show own_S p e below T298 m 470 _ [(.ref b255)] _
            refine XS.iconst X298.here hx rfl (hb hby at_470) ?_
            show own_S p e below T298 m 471 _ [(.int 0), (.ref b255)] _
            refine X298.iaload hx (j := (0 : Int32)) (v := (.int o0_284)) (by rw [e298]; exact Ar437.1) (State.isArrayOf_alike hZ.alike Ar437.2.1) Ar437.2.2 hin438 hat438 (g := (mkF m 471 #[oI p0, oI p1, oI p2, oI p3, oI p4, oI 3, oI ma0, oI ma1, oI ma2, oD (FP.i2d v0), oV, oD (FP.i2d v1), oV, oD (FP.i2d v2), oV, oR b255, oR b269, oI orr_284, oR b286, oI 0, oU, oU, oU, oU] [(.int 0), (.ref b255)])) rfl rfl (hb hby at_471) _ ?_
            show own_S p e below T298 m 472 _ [(.int o0_284)] _
            refine XS.aload X298.here hx rfl (hb hby at_472) rfl rfl ?_
            show own_S p e below T298 m 474 _ [(.ref b286), (.int o0_284)] _
            refine XS.iconst X298.here hx rfl (hb hby at_474) ?_
            show own_S p e below T298 m 475 _ [(.int 0), (.ref b286), (.int o0_284)] _
            refine X298.iaload hx (j := (0 : Int32)) (v := (.int ma0)) (by rw [e298]; exact Ar439.1) (State.isArrayOf_alike hZ.alike Ar439.2.1) Ar439.2.2 hin440 hat440 (g := (mkF m 475 #[oI p0, oI p1, oI p2, oI p3, oI p4, oI 3, oI ma0, oI ma1, oI ma2, oD (FP.i2d v0), oV, oD (FP.i2d v1), oV, oD (FP.i2d v2), oV, oR b255, oR b269, oI orr_284, oR b286, oI 0, oU, oU, oU, oU] [(.int 0), (.ref b286), (.int o0_284)])) rfl rfl (hb hby at_475) _ ?_
            show own_S p e below T298 m 476 _ [(.int ma0), (.int o0_284)] _
            refine XS.icmpNo X298.here hx rfl (hb hby at_476) rfl (teq ((hPF.1.symm.trans hE.1) : o0_284 = ma0)).2 ?_
            show own_S p e below T298 m 479 #[oI p0, oI p1, oI p2, oI p3, oI p4, oI 3, oI ma0, oI ma1, oI ma2, oD (FP.i2d v0), oV, oD (FP.i2d v1), oV, oD (FP.i2d v2), oV, oR b255, oR b269, oI orr_284, oR b286, oI 0, oU, oU, oU, oU] [] _
            refine XS.aload X298.here hx rfl (hb hby at_479) rfl rfl ?_
            show own_S p e below T298 m 481 _ [(.ref b255)] _
            refine XS.iconst X298.here hx rfl (hb hby at_481) ?_
            show own_S p e below T298 m 482 _ [(.int 1), (.ref b255)] _
            refine X298.iaload hx (j := (1 : Int32)) (v := (.int o1_284)) (by rw [e298]; exact Ar437.1) (State.isArrayOf_alike hZ.alike Ar437.2.1) Ar437.2.2 hin441 hat441 (g := (mkF m 482 #[oI p0, oI p1, oI p2, oI p3, oI p4, oI 3, oI ma0, oI ma1, oI ma2, oD (FP.i2d v0), oV, oD (FP.i2d v1), oV, oD (FP.i2d v2), oV, oR b255, oR b269, oI orr_284, oR b286, oI 0, oU, oU, oU, oU] [(.int 1), (.ref b255)])) rfl rfl (hb hby at_482) _ ?_
            show own_S p e below T298 m 483 _ [(.int o1_284)] _
            refine XS.aload X298.here hx rfl (hb hby at_483) rfl rfl ?_
            show own_S p e below T298 m 485 _ [(.ref b286), (.int o1_284)] _
            refine XS.iconst X298.here hx rfl (hb hby at_485) ?_
            show own_S p e below T298 m 486 _ [(.int 1), (.ref b286), (.int o1_284)] _
            refine X298.iaload hx (j := (1 : Int32)) (v := (.int ma1)) (by rw [e298]; exact Ar439.1) (State.isArrayOf_alike hZ.alike Ar439.2.1) Ar439.2.2 hin442 hat442 (g := (mkF m 486 #[oI p0, oI p1, oI p2, oI p3, oI p4, oI 3, oI ma0, oI ma1, oI ma2, oD (FP.i2d v0), oV, oD (FP.i2d v1), oV, oD (FP.i2d v2), oV, oR b255, oR b269, oI orr_284, oR b286, oI 0, oU, oU, oU, oU] [(.int 1), (.ref b286), (.int o1_284)])) rfl rfl (hb hby at_486) _ ?_
            show own_S p e below T298 m 487 _ [(.int ma1), (.int o1_284)] _
            refine XS.icmpNo X298.here hx rfl (hb hby at_487) rfl (teq ((hPF.2.1.symm.trans hE.2.1) : o1_284 = ma1)).2 ?_
            show own_S p e below T298 m 490 #[oI p0, oI p1, oI p2, oI p3, oI p4, oI 3, oI ma0, oI ma1, oI ma2, oD (FP.i2d v0), oV, oD (FP.i2d v1), oV, oD (FP.i2d v2), oV, oR b255, oR b269, oI orr_284, oR b286, oI 0, oU, oU, oU, oU] [] _
            refine XS.aload X298.here hx rfl (hb hby at_490) rfl rfl ?_
            show own_S p e below T298 m 492 _ [(.ref b255)] _
            refine XS.iconst X298.here hx rfl (hb hby at_492) ?_
            show own_S p e below T298 m 493 _ [(.int 2), (.ref b255)] _
            refine X298.iaload hx (j := (2 : Int32)) (v := (.int o2_284)) (by rw [e298]; exact Ar437.1) (State.isArrayOf_alike hZ.alike Ar437.2.1) Ar437.2.2 hin443 hat443 (g := (mkF m 493 #[oI p0, oI p1, oI p2, oI p3, oI p4, oI 3, oI ma0, oI ma1, oI ma2, oD (FP.i2d v0), oV, oD (FP.i2d v1), oV, oD (FP.i2d v2), oV, oR b255, oR b269, oI orr_284, oR b286, oI 0, oU, oU, oU, oU] [(.int 2), (.ref b255)])) rfl rfl (hb hby at_493) _ ?_
            show own_S p e below T298 m 494 _ [(.int o2_284)] _
            refine XS.aload X298.here hx rfl (hb hby at_494) rfl rfl ?_
            show own_S p e below T298 m 496 _ [(.ref b286), (.int o2_284)] _
            refine XS.iconst X298.here hx rfl (hb hby at_496) ?_
            show own_S p e below T298 m 497 _ [(.int 2), (.ref b286), (.int o2_284)] _
            refine X298.iaload hx (j := (2 : Int32)) (v := (.int ma2)) (by rw [e298]; exact Ar439.1) (State.isArrayOf_alike hZ.alike Ar439.2.1) Ar439.2.2 hin444 hat444 (g := (mkF m 497 #[oI p0, oI p1, oI p2, oI p3, oI p4, oI 3, oI ma0, oI ma1, oI ma2, oD (FP.i2d v0), oV, oD (FP.i2d v1), oV, oD (FP.i2d v2), oV, oR b255, oR b269, oI orr_284, oR b286, oI 0, oU, oU, oU, oU] [(.int 2), (.ref b286), (.int o2_284)])) rfl rfl (hb hby at_497) _ ?_
            show own_S p e below T298 m 498 _ [(.int ma2), (.int o2_284)] _
            refine XS.icmpNo X298.here hx rfl (hb hby at_498) rfl (teq ((hPF.2.2.1.symm.trans hE.2.2.1) : o2_284 = ma2)).2 ?_
            show own_S p e below T298 m 501 #[oI p0, oI p1, oI p2, oI p3, oI p4, oI 3, oI ma0, oI ma1, oI ma2, oD (FP.i2d v0), oV, oD (FP.i2d v1), oV, oD (FP.i2d v2), oV, oR b255, oR b269, oI orr_284, oR b286, oI 0, oU, oU, oU, oU] [] _
            refine XS.aload X298.here hx rfl (hb hby at_501) rfl rfl ?_
            show own_S p e below T298 m 503 _ [(.ref b269)] _
            refine XS.iconst X298.here hx rfl (hb hby at_503) ?_
            show own_S p e below T298 m 504 _ [(.int 0), (.ref b269)] _
            refine X298.daload hx (j := (0 : Int32)) (v := (.double (FP.i2d v0))) (by rw [e298]; exact Ar446.1) (State.isArrayOf_alike hZ.alike Ar446.2.1) Ar446.2.2 hin447 hat447 (g := (mkF m 504 #[oI p0, oI p1, oI p2, oI p3, oI p4, oI 3, oI ma0, oI ma1, oI ma2, oD (FP.i2d v0), oV, oD (FP.i2d v1), oV, oD (FP.i2d v2), oV, oR b255, oR b269, oI orr_284, oR b286, oI 0, oU, oU, oU, oU] [(.int 0), (.ref b269)])) rfl rfl (hb hby at_504) _ ?_
            show own_S p e below T298 m 505 _ [(.double (FP.i2d v0))] _
            refine XS.dload X298.here hx rfl (hb hby at_505) rfl ?_
            show own_S p e below T298 m 507 _ [(.double (FP.i2d v0)), (.double (FP.i2d v0))] _
            refine XS.dcmpS X298.here hx rfl (v := (0 : Int32)) (hb hby at_507) rfl (own_ieq (FP.Core.i2d_int v0) (FP.Core.i2d_int v0) rfl .l) ?_
            show own_S p e below T298 m 508 _ [(.int 0)] _
            refine XS.ifNo X298.here hx rfl (hb hby at_508) rfl ((if0 _ _).trans (teq (by decide : (0 : Int32) = (0 : Int32))).2) ?_
            show own_S p e below T298 m 511 _ [] _
            refine XS.aload X298.here hx rfl (hb hby at_511) rfl rfl ?_
            show own_S p e below T298 m 513 #[oI p0, oI p1, oI p2, oI p3, oI p4, oI 3, oI ma0, oI ma1, oI ma2, oD (FP.i2d v0), oV, oD (FP.i2d v1), oV, oD (FP.i2d v2), oV, oR b255, oR b269, oI orr_284, oR b286, oI 0, oU, oU, oU, oU] [(.ref b269)] _
            refine XS.iconst X298.here hx rfl (hb hby at_513) ?_
            show own_S p e below T298 m 514 _ [(.int 1), (.ref b269)] _
            refine X298.daload hx (j := (1 : Int32)) (v := (.double (FP.i2d v1))) (by rw [e298]; exact Ar446.1) (State.isArrayOf_alike hZ.alike Ar446.2.1) Ar446.2.2 hin448 hat448 (g := (mkF m 514 #[oI p0, oI p1, oI p2, oI p3, oI p4, oI 3, oI ma0, oI ma1, oI ma2, oD (FP.i2d v0), oV, oD (FP.i2d v1), oV, oD (FP.i2d v2), oV, oR b255, oR b269, oI orr_284, oR b286, oI 0, oU, oU, oU, oU] [(.int 1), (.ref b269)])) rfl rfl (hb hby at_514) _ ?_
            show own_S p e below T298 m 515 _ [(.double (FP.i2d v1))] _
            refine XS.dload X298.here hx rfl (hb hby at_515) rfl ?_
            show own_S p e below T298 m 517 _ [(.double (FP.i2d v1)), (.double (FP.i2d v1))] _
            refine XS.dcmpS X298.here hx rfl (v := (0 : Int32)) (hb hby at_517) rfl (own_ieq (FP.Core.i2d_int v1) (FP.Core.i2d_int v1) rfl .l) ?_
            show own_S p e below T298 m 518 _ [(.int 0)] _
            refine XS.ifNo X298.here hx rfl (hb hby at_518) rfl ((if0 _ _).trans (teq (by decide : (0 : Int32) = (0 : Int32))).2) ?_
            show own_S p e below T298 m 521 _ [] _
            refine XS.aload X298.here hx rfl (hb hby at_521) rfl rfl ?_
            show own_S p e below T298 m 523 _ [(.ref b269)] _
            refine XS.iconst X298.here hx rfl (hb hby at_523) ?_
            show own_S p e below T298 m 524 #[oI p0, oI p1, oI p2, oI p3, oI p4, oI 3, oI ma0, oI ma1, oI ma2, oD (FP.i2d v0), oV, oD (FP.i2d v1), oV, oD (FP.i2d v2), oV, oR b255, oR b269, oI orr_284, oR b286, oI 0, oU, oU, oU, oU] [(.int 2), (.ref b269)] _
            refine X298.daload hx (j := (2 : Int32)) (v := (.double (FP.i2d v2))) (by rw [e298]; exact Ar446.1) (State.isArrayOf_alike hZ.alike Ar446.2.1) Ar446.2.2 hin449 hat449 (g := (mkF m 524 #[oI p0, oI p1, oI p2, oI p3, oI p4, oI 3, oI ma0, oI ma1, oI ma2, oD (FP.i2d v0), oV, oD (FP.i2d v1), oV, oD (FP.i2d v2), oV, oR b255, oR b269, oI orr_284, oR b286, oI 0, oU, oU, oU, oU] [(.int 2), (.ref b269)])) rfl rfl (hb hby at_524) _ ?_
            show own_S p e below T298 m 525 _ [(.double (FP.i2d v2))] _
            refine XS.dload X298.here hx rfl (hb hby at_525) rfl ?_
            show own_S p e below T298 m 527 _ [(.double (FP.i2d v2)), (.double (FP.i2d v2))] _
            refine XS.dcmpS X298.here hx rfl (v := (0 : Int32)) (hb hby at_527) rfl (own_ieq (FP.Core.i2d_int v2) (FP.Core.i2d_int v2) rfl .l) ?_
            show own_S p e below T298 m 528 _ [(.int 0)] _
            refine XS.ifNo X298.here hx rfl (hb hby at_528) rfl ((if0 _ _).trans (teq (by decide : (0 : Int32) = (0 : Int32))).2) ?_
            show own_S p e below T298 m 531 _ [] _
            refine XS.iconst X298.here hx rfl (hb hby at_531) ?_
            show own_S p e below T298 m 532 _ [(.int 1)] _
            refine XS.goto X298.here hx rfl (pc0 := 532) (pc' := 536) rfl (hb hby at_532) (by decide) (by decide) ?_
            show own_S p e below T298 m 536 _ [(.int 1)] _
            exact retN X298 hx (t := .boolean) Bd.returns (by simp) (hb hby at_536) hr
          · show Qm0 Z p0 p1 p2 p3 p4 h0 n0 _ T298.heap _
            rw [e298]
            exact ⟨rfl, N298⟩
set_option maxRecDepth 65536 in
set_option maxHeartbeats 40000000 in
theorem comes_1 {Post : Tables → Env → Array Value → State → Outcome → State → Prop} (hpost : ∀ tb e args s v u, (limb_1_1.after args s (.returned v) u = true ∧ limb_1_2.after args s (.returned v) u = true ∧ True) → FrameEnd s (.returned v) u (Jvm.fieldLocs frame_1_writes args s ++ Jvm.arrayLocs frame_1_arrays args s ++ Jvm.staticLocs frame_1_statics s) 16 128 → Post tb e args s (.returned v) u) :
    ArmFor flags0 classFile x code maxLocals ret World_1 tables_1 room_1 Calls_1 rest_1 Pre_1 Post := by
  intro l hfl _ _ p e ha hc hk s m args below hf hA hF happ hP
  obtain ⟨hcalls, hrest, hpre⟩ := hP
  obtain ⟨-, -, -, hnamed, -, -, -, hat⟩ := (Spec.applies_iff hf).mp happ
  obtain ⟨hg, hn⟩ := and_e (Cond.before_iff.mp (show (Jvm.Cond.and given_1 narrow_1).before args s = true from hpre))
  obtain ⟨hcount, hg0⟩ := and_e hg
  obtain ⟨hv0, hg1⟩ := and_e hg0
  obtain ⟨hv1, hg2⟩ := and_e hg1
  obtain ⟨hv2, hg3⟩ := and_e hg2
  obtain ⟨hv3, hg4⟩ := and_e hg3
  obtain ⟨w0, w1, w2, w3, w4, rfl⟩ : ∃ w0 w1 w2 w3 w4 : Value, args = #[w0, w1, w2, w3, w4] := by
    have hs : args.size = 5 := by simpa [Cond.value, given_1] using hcount
    obtain ⟨L⟩ := args
    match L, hs with
    | [w0, w1, w2, w3, w4], _ => exact ⟨w0, w1, w2, w3, w4, rfl⟩
  have hw := fun d (hd : d ∈ tables_1) => atoms_spec (ws := Jvm.Cond.code x code maxLocals ret :: tables_1) hat d (List.mem_cons_of_mem _ hd)
  have hfit : Fit s := fun {y c} hc i hi => by
    obtain ⟨ha, rfl⟩ := Array.getElem?_eq_some_iff.mp hc
    have q := List.all_eq_true.mp ((Array.all_eq_true_iff_forall_mem.mp hF) _ (Array.getElem_mem ha)) i (List.mem_range.mpr hi)
    simpa [Array.getElem?_eq_getElem hi] using q
  obtain ⟨i0, ei0⟩ := is_v hv0
  obtain rfl : w0 = (.int i0) := Option.some.inj ei0
  obtain ⟨i1, ei1⟩ := is_v hv1
  obtain rfl : w1 = (.int i1) := Option.some.inj ei1
  obtain ⟨i2, ei2⟩ := is_v hv2
  obtain rfl : w2 = (.int i2) := Option.some.inj ei2
  obtain ⟨i3, ei3⟩ := is_v hv3
  obtain rfl : w3 = (.int i3) := Option.some.inj ei3
  obtain ⟨i4, ei4⟩ := is_v hg4
  obtain rfl : w4 = (.int i4) := Option.some.inj ei4
  obtain ⟨n, o, h1, h2, h3, _, L, rfl, ⟨rfl, N⟩, hq⟩ := rmm0 l s _ hw tables_1 i0 i1 i2 i3 i4 s.heap s.heap.size (Nat.le_refl _)  p e ha hc hk s m _ below hf ((Spec.applies_iff_loose hf).mp happ).1 ⟨rfl, State.Warmed39.refl s, rfl⟩ trivial
  refine ⟨n, _, h1, h2, h3, hpost _ _ _ _ _ _ ⟨Cond.after_iff.mpr rfl, Cond.after_iff.mpr (eq_i res_at (Term.int_eval (1)) rfl), trivial⟩ ⟨hq.1, hq.2.1, (hq.2.2.sift fun y hy => Or.inr (N y hy)).mono (by decide) (by decide)⟩⟩
theorem main_1_1 : Claimed_1_1 := comes_1 fun _ _ _ _ _ _ h hF => ⟨h.1, hF⟩
theorem main_1_2 : Claimed_1_2 := comes_1 fun _ _ _ _ _ _ h hF => ⟨h.2.1, hF⟩
end Jvm.Pilot.@@N@@
namespace Jvm.Pilot.@@N@@
open Jvm Jvm.ClassFile Sem Op Lib Jvm.Free Jvm.Stand Jvm.Pilot.@@N@@.Jvm.D
/-! MADE BY PROGRAM (witnessworld.py) out of the Statement's table words and the real class files: 11 classes; the members and pool entries that the words name. The judged class is class 1, her method 2. -/
namespace start1
open Jvm.ClassFile
def u (s : String) : CpInfo := .utf8 (stringToUtf16 s)
/-- a pool by its gaps: so many unusable entries, then the entry; so many at the end -/
def gap : Nat → List CpInfo → List CpInfo
  | 0, r => r
  | n + 1, r => .unusable :: gap n r
def poolList (es : List (Nat × CpInfo)) (last : Nat) : List CpInfo := es.foldr (fun e r => gap e.1 (e.2 :: r)) (gap last [])
def pool (es : List (Nat × CpInfo)) (last : Nat) : Array CpInfo := ⟨poolList es last⟩
def fileOf (pool : Array CpInfo) (this : Nat) (attrs : Array Attribute := #[]) (ms : Array MethodInfo := #[]) (fl : Nat := 33) (sup : Nat := 0) (ifs : Array Nat := #[]) (fds : Array FieldInfo := #[]) : ClassFile where
  minorVersion := 0
  majorVersion := 65
  constantPool := pool
  accessFlags := fl
  thisClass := this
  superClass := sup
  interfaces := ifs
  fields := fds
  methods := ms
  attributes := attrs
def plain (name : String) (sup : Option ClassId) : Class where
  name := name
  kind := .ordinary
  loader := none
  accessFlags := 33
  super := sup
  interfaces := #[]
  cf := none
  fields := #[]
  methods := #[]
  instanceTypes := #[]
  staticTypes := #[]
  resolved := #[]
  callSites := []
  init := .initialized
  statics := none
  mirror := none

def pool0 : Array CpInfo := pool [(5, u "<init>"), (0, u "()V"), (1, .class_ 10), (1, u "java/lang/Object")] 113

def k0m0 : Method := { name := "<init>", desc := "()V", sig := { parameters := [], returnType := none }, accessFlags := 1, code := none }
/-- java/lang/Object -/
def k0 : Class := { plain "java/lang/Object" none with
  accessFlags := 33
  interfaces := #[]
  cf := some (fileOf pool0 8 #[] #[{ accessFlags := 1, nameIndex := 5, descriptorIndex := 6, attributes := #[] }] 33 0 #[] #[])
  fields := #[]
  methods := #[k0m0]
  instanceTypes := #[]
  staticTypes := #[]
  resolved := Array.replicate 124 none
  statics := none }

def pool1 : Array CpInfo := pool [(2, .class_ 4), (1, u "java/lang/Object"), (0, u "<init>"), (0, u "()V"), (0, .integer 2147483647), (0, .methodref 9 10), (0, .class_ 11), (0, .nameAndType 12 13), (0, u "com/example/metasearch/metasearch/EmptyClusters"), (0, u "fill"), (0, u "([I[DI)Z"), (0, .methodref 15 16), (0, .class_ 17), (0, .nameAndType 18 19), (0, u "com/example/metasearch/metasearch/EmptyClustersFillPinLaw"), (0, u "worst"), (0, u "(ZZZDDD)I"), (3, u "law"), (0, u "(IIIII)Z")] 6

def k1m0 : Method := { name := "<init>", desc := "()V", sig := { parameters := [], returnType := none }, accessFlags := 2, code := none }
def k1c1 : Code := { maxStack := 4, maxLocals := 11, code := method_2_code, exceptionTable := #[], attributes := #[] }
def k1m1 : Method := { name := "worst", desc := "(ZZZDDD)I", sig := { parameters := [.boolean, .boolean, .boolean, .double, .double, .double], returnType := some .int }, accessFlags := 10, code := some k1c1 }
def k1c2 : Code := { maxStack := 9, maxLocals := 24, code := code, exceptionTable := #[], attributes := #[] }
def k1m2 : Method := { name := "law", desc := "(IIIII)Z", sig := { parameters := [.int, .int, .int, .int, .int], returnType := some .boolean }, accessFlags := 9, code := some k1c2 }
/-- com/example/metasearch/metasearch/EmptyClustersFillPinLaw -/
def k1 : Class := { plain "com/example/metasearch/metasearch/EmptyClustersFillPinLaw" (some 0) with
  accessFlags := 49
  interfaces := #[]
  cf := some (fileOf pool1 15 #[] #[{ accessFlags := 2, nameIndex := 5, descriptorIndex := 6, attributes := #[] }, { accessFlags := 10, nameIndex := 18, descriptorIndex := 19, attributes := #[] }, { accessFlags := 9, nameIndex := 23, descriptorIndex := 24, attributes := #[] }] 49 2 #[] #[])
  fields := #[]
  methods := #[k1m0, k1m1, k1m2]
  instanceTypes := #[]
  staticTypes := #[]
  resolved := Array.replicate 31 none
  statics := none }

def pool2 : Array CpInfo := pool [(2, .class_ 4), (1, u "java/lang/Object"), (0, u "<init>"), (0, u "()V"), (0, .class_ 8), (0, u "com/example/metasearch/metasearch/EmptyClusters"), (2, u "fill"), (0, u "([I[DI)Z")] 7

def k2m0 : Method := { name := "<init>", desc := "()V", sig := { parameters := [], returnType := none }, accessFlags := 2, code := none }
def k2c1 : Code := { maxStack := 4, maxLocals := 8, code := prog_8_method_2_code, exceptionTable := #[], attributes := #[] }
def k2m1 : Method := { name := "fill", desc := "([I[DI)Z", sig := { parameters := [(.array .int), (.array .double), .int], returnType := some .boolean }, accessFlags := 8, code := some k2c1 }
/-- com/example/metasearch/metasearch/EmptyClusters -/
def k2 : Class := { plain "com/example/metasearch/metasearch/EmptyClusters" (some 0) with
  accessFlags := 48
  interfaces := #[]
  cf := some (fileOf pool2 7 #[] #[{ accessFlags := 2, nameIndex := 5, descriptorIndex := 6, attributes := #[] }, { accessFlags := 8, nameIndex := 11, descriptorIndex := 12, attributes := #[] }] 48 2 #[] #[])
  fields := #[]
  methods := #[k2m0, k2m1]
  instanceTypes := #[]
  staticTypes := #[]
  resolved := Array.replicate 20 none
  statics := none }

def pool3 : Array CpInfo := pool [(1, u "java/lang/Cloneable"), (0, .class_ 1), (0, u "java/lang/Object"), (0, .class_ 3)] 3

/-- java/lang/Cloneable -/
def k3 : Class := { plain "java/lang/Cloneable" (some 0) with
  accessFlags := 1537
  interfaces := #[]
  cf := some (fileOf pool3 2 #[] #[] 1537 4 #[] #[])
  fields := #[]
  methods := #[]
  instanceTypes := #[]
  staticTypes := #[]
  resolved := Array.replicate 8 none
  statics := none }

def pool4 : Array CpInfo := pool [(1, u "java/io/Serializable"), (0, .class_ 1), (0, u "java/lang/Object"), (0, .class_ 3)] 3

/-- java/io/Serializable -/
def k4 : Class := { plain "java/io/Serializable" (some 0) with
  accessFlags := 1537
  interfaces := #[]
  cf := some (fileOf pool4 2 #[] #[] 1537 4 #[] #[])
  fields := #[]
  methods := #[]
  instanceTypes := #[]
  staticTypes := #[]
  resolved := Array.replicate 8 none
  statics := none }

/-- the primitive byte -/
def k5 : Class := { plain "byte" none with kind := .primitive 'B', accessFlags := 0x411 }
/-- [B -/
def k6 : Class := { plain "[B" (some 0) with kind := .array 5 .byte, interfaces := #[3, 4], accessFlags := 1041 }

/-- the primitive double -/
def k7 : Class := { plain "double" none with kind := .primitive 'D', accessFlags := 0x411 }
/-- [D -/
def k8 : Class := { plain "[D" (some 0) with kind := .array 7 .double, interfaces := #[3, 4], accessFlags := 1041 }

/-- the primitive int -/
def k9 : Class := { plain "int" none with kind := .primitive 'I', accessFlags := 0x411 }
/-- [I -/
def k10 : Class := { plain "[I" (some 0) with kind := .array 9 .int, interfaces := #[3, 4], accessFlags := 1041 }

def heap : Heap := #[]
def classes : Array Class := #[k0, k1, k2, k3, k4, k5, k6, k7, k8, k9, k10]
def interned : List (Array UInt16 × Addr) := []
def slotsUsed : Nat := 0
def theMethod : MethodId := ⟨1, 2⟩
def args0 : Array Value := #[.int 5, .int 6, .int 7, .int 8, .int 9]
def aboutOver (below : List Frame) : State where
  vm := { classes := classes, interned := interned.toArray }
  heap := heap
  slotsUsed := slotsUsed
  threads := #[{ frames := .invoking theMethod args0 :: below }]
def below0 : List Frame := [.native { method := ⟨0, 0⟩, args := #[] }]
def about1 : State := aboutOver below0
def p0 : Program := .bare "" "" ""
def e0 : Env := launch0.env 0 0 0
theorem w_frames : about1.frames = Frame.invoking theMethod args0 :: below0 := rfl
set_option maxRecDepth 65536 in
theorem w_args : argsFit about1.vm theMethod args0 = true := by decide +kernel
set_option maxRecDepth 65536 in
theorem w_heap : heapFits about1 = true := by decide +kernel
set_option maxRecDepth 65536 in
theorem w_runnable : about1.curStatus? = some .runnable := by decide +kernel
set_option maxRecDepth 65536 in
theorem w_alone : about1.alone = true := by decide +kernel
set_option maxRecDepth 65536 in
theorem w_named : about1.methodNamed? x = some theMethod := by decide +kernel
set_option maxRecDepth 65536 in
theorem w_hears : about1.hears theMethod below0 = true := by decide +kernel
set_option maxRecDepth 65536 in
theorem w_ripe : about1.ripe theMethod args0 below0 = true := by decide +kernel
theorem w_running : about1.status = .running := rfl
set_option maxRecDepth 65536 in
theorem w_room : about1.hasRoom e0.platform room_1 = true :=
  launch0.hasRoom_least _ room_1 (by decide +kernel) (by decide +kernel) (by decide +kernel) (by decide +kernel) (by decide +kernel) (by decide +kernel)
theorem allAtoms_all (ts : List Jvm.Cond) (a : Array Jvm.Value) (st : Jvm.State) : (allAtoms ts).before a st = ts.all (fun c => c.before a st) := by
  induction ts with
  | nil => rfl
  | cons c t ih =>
    show (Jvm.Cond.and c (allAtoms t)).before a st = _
    rw [Jvm.Cond.before_and, ih, List.all_cons]
def words1 : List Jvm.Cond := Jvm.Cond.code x code maxLocals ret :: tables_1
/-- a 'code' word, met by the world's own term for the bytes: nothing is compared byte by byte -/
theorem code_word {y : MethodName} {bytes : ByteArray} {mx : Nat} {rt : Option FieldType} {a : Array Value} {s : State} {m : MethodId} {meth : Method} {c : Code} (h1 : s.methodNamed? y = some m) (h2 : s.vm.method? m = some meth) (h3 : meth.code = some c) (h4 : c.code = bytes)
    (h5 : (c.maxLocals == mx && c.exceptionTable.isEmpty && decide (c.maxStack ≤ mostOperands) && decide (meth.sig.returnType = rt) && !meth.locks && decide (parseMethodDescriptor y.desc = some meth.sig)) = true) : (Jvm.Cond.code y bytes mx rt).before a s = true := by
  simp only [Bool.and_eq_true, beq_iff_eq, Bool.not_eq_true', decide_eq_true_eq] at h5
  obtain ⟨⟨⟨⟨⟨g1, g2⟩, g3⟩, g4⟩, g5⟩, g6⟩ := h5
  simp [Cond.before, Cond.holds, Cond.value, h1, h2, h3, h4, g1, g2, g3, g4, g5, g6]
def isCode : Jvm.Cond → Bool
  | .code _ _ _ _ => true
  | _ => false
theorem all_split {L : List Jvm.Cond} {P : Jvm.Cond → Bool} (h1 : L.all (fun c => isCode c || P c) = true) (h2 : ∀ c ∈ L.filter isCode, P c = true) : L.all P = true := by
  refine List.all_eq_true.mpr fun c hc => ?_
  have h := List.all_eq_true.mp h1 c hc
  rcases Bool.eq_false_or_eq_true (isCode c) with hi | hi
  · exact h2 c (List.mem_filter.mpr ⟨hc, hi⟩)
  · simpa [hi] using h
set_option maxRecDepth 65536 in
theorem w_c0 : (Jvm.Cond.code x code maxLocals ret).before args0 about1 = true := code_word (m := ⟨1, 2⟩) (meth := k1m2) (c := k1c2) (by decide +kernel) rfl rfl rfl (by decide +kernel)
set_option maxRecDepth 65536 in
theorem w_c1 : (Jvm.Cond.code ({ cls := "com/example/metasearch/metasearch/EmptyClusters", name := "fill", desc := "([I[DI)Z" } : Jvm.MethodName) prog_8_method_2_code (8 : Nat) (Option.some Jvm.ClassFile.FieldType.boolean)).before args0 about1 = true := code_word (m := ⟨2, 1⟩) (meth := k2m1) (c := k2c1) (by decide +kernel) rfl rfl rfl (by decide +kernel)
set_option maxRecDepth 65536 in
theorem w_c2 : (Jvm.Cond.code ({ cls := "com/example/metasearch/metasearch/EmptyClustersFillPinLaw", name := "worst", desc := "(ZZZDDD)I" } : Jvm.MethodName) method_2_code (11 : Nat) (Option.some Jvm.ClassFile.FieldType.int)).before args0 about1 = true := code_word (m := ⟨1, 1⟩) (meth := k1m1) (c := k1c1) (by decide +kernel) rfl rfl rfl (by decide +kernel)
def codes1 : List Jvm.Cond := [Jvm.Cond.code x code maxLocals ret, Jvm.Cond.code ({ cls := "com/example/metasearch/metasearch/EmptyClusters", name := "fill", desc := "([I[DI)Z" } : Jvm.MethodName) prog_8_method_2_code (8 : Nat) (Option.some Jvm.ClassFile.FieldType.boolean), Jvm.Cond.code ({ cls := "com/example/metasearch/metasearch/EmptyClustersFillPinLaw", name := "worst", desc := "(ZZZDDD)I" } : Jvm.MethodName) method_2_code (11 : Nat) (Option.some Jvm.ClassFile.FieldType.int)]
set_option maxRecDepth 65536 in
theorem codes_eq : words1.filter isCode = codes1 := rfl
theorem w_codes : ∀ c ∈ words1.filter isCode, c.before args0 about1 = true := by
  rw [codes_eq]
  intro c hc
  simp only [codes1, List.mem_cons, List.not_mem_nil, or_false] at hc
  rcases hc with rfl | rfl | rfl
  · exact w_c0
  · exact w_c1
  · exact w_c2
set_option maxRecDepth 65536 in
theorem w_t1 : words1.all (fun c => isCode c || c.before args0 about1) = true := by decide +kernel
theorem w_tables : (allAtoms (Jvm.Cond.code x code maxLocals ret :: tables_1)).before args0 about1 = true := by
  rw [allAtoms_all]
  show words1.all (fun c => c.before args0 about1) = true
  refine all_split ?_ w_codes
  rw [w_t1]
set_option maxRecDepth 65536 in
theorem w_case : (Jvm.Cond.and given_1 narrow_1).before args0 about1 = true := by decide +kernel
theorem w_applies : (headSpec (Jvm.Cond.code x code maxLocals ret :: tables_1) room_1).applies x e0.platform about1 = true :=
  (Spec.applies_iff w_frames).mpr ⟨w_running, w_runnable, w_alone, w_named, w_hears, w_ripe, w_room, w_tables⟩
theorem atStart : AtStart classFile x code maxLocals ret World_1 tables_1 room_1 Calls_1 rest_1 Pre_1 launch0 p0 e0 about1 theMethod args0 below0 :=
  ⟨lists_1, trivial, launch0.admits_env _ _ _, launch0.least_env, fairChoices_fair.cas, fairChoices_fair.clock, w_frames, w_args, w_heap, w_applies, trivial, trivial, w_case⟩
end start1
theorem witness_1 : WitnessClaimed_1 := ⟨start1.p0, start1.e0, start1.about1, start1.theMethod, start1.args0, start1.below0, start1.atStart⟩
end Jvm.Pilot.@@N@@
