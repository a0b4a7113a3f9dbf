import JvmDerived
import JvmDerived.Pilot.@@N@@Statement
import JvmDerived.Pilot.@@N@@Code
set_option linter.unusedVariables false
set_option linter.unusedSimpArgs false
namespace Jvm.Pilot.@@N@@
open Jvm Jvm.ClassFile Sem Op Lib Jvm.Free Jvm.Stand Jvm.LawKit Jvm.RoadKit Bundle Jvm.Free.Fl Jvm.Pilot.@@N@@.Jvm.D
theorem own_w {a0 : Array Value} {Z : State} (hw : ∀ d ∈ tables_1, d.before a0 Z = true) (i : Nat) {d : Jvm.Cond} (h : tables_1[i]? = some d) : d.before a0 Z = true := hw _ (List.mem_of_getElem? h)
abbrev own_S (p : Program) (e : Env) (below : List Frame) (T : State) (m : MethodId) (pc : Nat) (Ls : Array Slot) (st : List Value) (t : State) : Prop := Steps p.tables e below (T.setTop (mkF m pc Ls st)) t
abbrev oI (x : Int32) : Slot := .val (.int x)
abbrev oJ (x : Int64) : Slot := .val (.long x)
abbrev oD (x : UInt64) : Slot := .val (.double x)
abbrev oR (x : Addr) : Slot := .val (.ref x)
abbrev oU : Slot := .unset
abbrev oV : Slot := .second
section Re
variable {tb : Tables} {e : Env} {below : List Frame} {T target : State} {m : MethodId} {pc : Nat} {Ls : Array Slot} {rest : List Value}
theorem reI {x y : Int32} (h : x = y) (k : Steps tb e below (T.setTop (mkF m pc Ls (.int y :: rest))) target) : Steps tb e below (T.setTop (mkF m pc Ls (.int x :: rest))) target := by rw [h]; exact k
theorem reJ {x y : Int64} (h : x = y) (k : Steps tb e below (T.setTop (mkF m pc Ls (.long y :: rest))) target) : Steps tb e below (T.setTop (mkF m pc Ls (.long x :: rest))) target := by rw [h]; exact k
theorem reD {x y : UInt64} (h : x = y) (k : Steps tb e below (T.setTop (mkF m pc Ls (.double y :: rest))) target) : Steps tb e below (T.setTop (mkF m pc Ls (.double x :: rest))) target := by rw [h]; exact k
theorem re2I {v : Value} {x y : Int32} (h : x = y) (k : Steps tb e below (T.setTop (mkF m pc Ls (v :: .int y :: rest))) target) : Steps tb e below (T.setTop (mkF m pc Ls (v :: .int x :: rest))) target := by rw [h]; exact k
theorem own_nnl {e v : UInt64} (h : e = v) (hv : NoNaN64 v) : NoNaN64 e := h ▸ hv
end Re
section OwnFloat
open Jvm.FP
/-- finite, and worth z units of 2^-1074 -/
def own_At (a : UInt64) (z : Int) : Prop := ∃ s c q, Core.val64 a = .fin s c q ∧ Core.signed s (Core.inUnits c q (-1074)) = z
/-- a magnitude that a double has exactly -/
def own_Rep (n : Nat) : Prop := ∃ m e : Nat, n = m * 2 ^ e ∧ m < 2 ^ 53 ∧ e ≤ 2045
theorem own_shift {A C a b a' b' : Nat} (h : A * 2 ^ a = C * 2 ^ b) (hab : a + b' = a' + b) : A * 2 ^ a' = C * 2 ^ b' := by
  have h1 : A * 2 ^ a' * 2 ^ b = C * 2 ^ b' * 2 ^ b := by
    calc A * 2 ^ a' * 2 ^ b = A * (2 ^ a' * 2 ^ b) := Nat.mul_assoc _ _ _
      _ = A * 2 ^ (a' + b) := by rw [Nat.pow_add]
      _ = A * 2 ^ (a + b') := by rw [hab]
      _ = A * 2 ^ a * 2 ^ b' := by rw [Nat.pow_add, Nat.mul_assoc]
      _ = C * 2 ^ b * 2 ^ b' := by rw [h]
      _ = C * 2 ^ b' * 2 ^ b := by rw [Nat.mul_assoc, Nat.mul_comm (2 ^ b), Nat.mul_assoc]
  exact Nat.eq_of_mul_eq_mul_right (Nat.two_pow_pos b) h1
theorem own_fit (s : Bool) {n : Nat} (h : own_Rep n) : ∃ c q, Core.fits Core.b64 (.fin s c q) ∧ Core.inUnits c q (-1074) = n := by
  obtain ⟨m, e, rfl, hm, he⟩ := h
  have h1 : Core.b64.qmin ≤ -1074 + (e : Int) := by rw [Core.qmin_b64]; omega
  have h2 : -1074 + (e : Int) ≤ Core.b64.qmax := by rw [show Core.b64.qmax = 971 by decide +kernel]; omega
  obtain ⟨c, q, hr, hu⟩ := Core.round_exact Core.good_b64 s (c := m) (q := -1074 + (e : Int)) hm h1 h2
  refine ⟨c, q, ?_, ?_⟩
  · rw [← hr]; exact Core.round_fits Core.good_b64 _
  · rw [Core.qmin_b64] at hu
    rw [hu]
    show m * 2 ^ (-1074 + (e : Int) - -1074).toNat = m * 2 ^ e
    congr 2
    omega
/-- rounding a ratio that a double has exactly -/
theorem own_rr {s : Bool} {A B n : Nat} {e : Int} (hB : 0 < B) (hn : own_Rep n) (h : A * 2 ^ (e + 1074).toNat = n * B * 2 ^ (-(e + 1074)).toNat) :
    ∃ c q, Core.roundRatio Core.b64 s A B e = .fin s c q ∧ Core.inUnits c q (-1074) = n := by
  obtain ⟨c, q, hf, hu⟩ := own_fit s hn
  refine ⟨c, q, Core.roundRatio_exact Core.good_b64 hB hf ?_, hu⟩
  have hq : -1074 ≤ q := by have := hf.2.1; rw [Core.qmin_b64] at this; exact this
  rw [← hu] at h
  unfold Core.inUnits at h
  have h' : A * 2 ^ (e + 1074).toNat = (c * B) * 2 ^ ((q - -1074).toNat + (-(e + 1074)).toNat) := by
    rw [h, Nat.pow_add]; simp only [Nat.mul_assoc, Nat.mul_left_comm, Nat.mul_comm]
  exact own_shift h' (by omega)
theorem own_at_fin {a : UInt64} {z : Int} (h : own_At a z) : Fin64 a := by
  obtain ⟨s, c, q, h, -⟩ := h
  exact fin64_core.mpr ⟨s, c, q, h⟩
theorem own_at_nn {a : UInt64} {z : Int} (h : own_At a z) : NoNaN64 a := (own_at_fin h).noNaN
theorem own_at_val {a : UInt64} {z : Int} (h : own_At a z) : Core.val64 a ≠ .nan ∧ Core.zval Core.b64 (Core.val64 a) = z := by
  obtain ⟨s, c, q, h, hz⟩ := h
  rw [h]
  refine ⟨nofun, ?_⟩
  show Core.signed s (Core.inUnits c q Core.b64.qmin) = z
  rw [Core.qmin_b64]; exact hz
theorem own_cmp {a b : UInt64} {x y : Int} (ha : own_At a x) (hb : own_At b y) : FP.dcmp a b = some (compare x y) := by
  have h1 := own_at_val ha; have h2 := own_at_val hb
  rw [← h1.2, ← h2.2]; exact Core.dcmp_zval h1.1 h2.1
theorem own_cmpV {a b : UInt64} {x y : Int} (ha : own_At a x) (hb : own_At b y) (o : CmpOp) : cmpValue (FP.dcmp a b) o = if x < y then -1 else if x = y then 0 else 1 := by
  rw [own_cmp ha hb]
  rcases Int.lt_trichotomy x y with h | h | h
  · rw [if_pos h, show compare x y = .lt from by simp [compare, compareOfLessAndEq, h]]; cases o <;> rfl
  · rw [if_neg (by omega), if_pos h, show compare x y = .eq from by subst h; simp [compare, compareOfLessAndEq]]; cases o <;> rfl
  · rw [if_neg (by omega), if_neg (by omega), show compare x y = .gt from by simp [compare, compareOfLessAndEq, show ¬ x < y by omega, show ¬ x = y by omega]]; cases o <;> rfl
theorem own_eqV {a b : UInt64} {x y : Int} (ha : own_At a x) (hb : own_At b y) (h : x = y) (o : CmpOp) : cmpValue (FP.dcmp a b) o = 0 := by
  rw [own_cmpV ha hb, if_neg (by omega), if_pos h]
theorem own_int {i : Int} {a : UInt64} (h : Core.DInt i a) : own_At a (i * (Core.one64 : Int)) := by
  have hz := Core.DInt_zval h
  unfold Core.DInt at h
  cases e : Core.val64 a with
  | nan => rw [e] at h; exact h.elim
  | inf s => rw [e] at h; exact h.elim
  | fin s c q =>
    refine ⟨s, c, q, e, ?_⟩
    rw [e] at hz
    rw [← hz]
    show _ = Core.signed s (Core.inUnits c q Core.b64.qmin)
    rw [Core.qmin_b64]
theorem own_dint_fin {i : Int} {a : UInt64} (h : Core.DInt i a) : Fin64 a := own_at_fin (own_int h)
theorem own_dint_nn {i : Int} {a : UInt64} (h : Core.DInt i a) : NoNaN64 a := (own_dint_fin h).noNaN
theorem own_icmp {a b : UInt64} {x y : Int} (ha : Core.DInt x a) (hb : Core.DInt y b) (o : CmpOp) : cmpValue (FP.dcmp a b) o = if x < y then -1 else if x = y then 0 else 1 := by
  rw [show FP.dcmp a b = some (compare x y) from Core.dcmp_int ha hb]
  rcases Int.lt_trichotomy x y with h | h | h
  · rw [if_pos h, show compare x y = .lt from by simp [compare, compareOfLessAndEq, h]]; cases o <;> rfl
  · rw [if_neg (by omega), if_pos h, show compare x y = .eq from by subst h; simp [compare, compareOfLessAndEq]]; cases o <;> rfl
  · rw [if_neg (by omega), if_neg (by omega), show compare x y = .gt from by simp [compare, compareOfLessAndEq, show ¬ x < y by omega, show ¬ x = y by omega]]; cases o <;> rfl
theorem own_ieq {a b : UInt64} {x y : Int} (ha : Core.DInt x a) (hb : Core.DInt y b) (h : x = y) (o : CmpOp) : cmpValue (FP.dcmp a b) o = 0 := by
  rw [own_icmp ha hb, if_neg (by omega), if_pos h]
/-- the quotient of two whole numbers, as one rounding of their ratio -/
theorem own_quot {i j : Int} {a b : UInt64} (ha : Core.DInt i a) (hb : Core.DInt j b) (hj : j ≠ 0) :
    ∃ s, Core.val64 (FP.ddiv a b) = Core.roundRatio Core.b64 s i.natAbs j.natAbs 0 ∧ (i ≠ 0 → s = (decide (i < 0) != decide (j < 0))) := by
  show ∃ s, Core.val64 (Core.ddiv a b) = _ ∧ _
  rw [Core.val64_ddiv]
  unfold Core.DInt at ha hb
  generalize Core.val64 a = x at ha
  generalize Core.val64 b = y at hb
  cases x with
  | nan => exact ha.elim
  | inf => exact ha.elim
  | fin s c q =>
  cases y with
  | nan => exact hb.elim
  | inf => exact hb.elim
  | fin t d r =>
    have hd : d ≠ 0 := fun h => hj ((Core.whole_zero hb).mp h)
    refine ⟨s != t, ?_, fun hi => by rw [Core.whole_sign ha hi, Core.whole_sign hb hj]⟩
    show (if d = 0 then _ else Core.roundRatio Core.b64 (s != t) c d (q - r)) = _
    rw [if_neg hd]
    refine Core.roundRatio_congr (by omega) (by omega) ?_
    have h1 := Core.whole_natAbs ha
    have h2 := Core.whole_natAbs hb
    have h3 : (c * j.natAbs) * 2 ^ (q.toNat + (-r).toNat) = (i.natAbs * d) * 2 ^ ((-q).toNat + r.toNat) := by
      calc (c * j.natAbs) * 2 ^ (q.toNat + (-r).toNat) = (c * 2 ^ q.toNat) * (j.natAbs * 2 ^ (-r).toNat) := by rw [Nat.pow_add]; simp only [Nat.mul_assoc, Nat.mul_left_comm, Nat.mul_comm]
        _ = (i.natAbs * 2 ^ (-q).toNat) * (d * 2 ^ r.toNat) := by rw [h1, h2]
        _ = (i.natAbs * d) * 2 ^ ((-q).toNat + r.toNat) := by rw [Nat.pow_add]; simp only [Nat.mul_assoc, Nat.mul_left_comm, Nat.mul_comm]
    exact own_shift h3 (by omega)
/-- a quotient that comes out whole -/
theorem own_ddiv {i j k : Int} {a b : UInt64} (ha : Core.DInt i a) (hb : Core.DInt j b) (hj : j ≠ 0) (hk : i = k * j) (hs : k.natAbs ≤ 2 ^ 53) : Core.DInt k (FP.ddiv a b) := by
  obtain ⟨s, hv, hsgn⟩ := own_quot ha hb hj
  unfold Core.DInt
  rw [hv]
  have hw : Core.Whole k (.fin s k.natAbs 0) := by
    show Core.signed s (k.natAbs * 2 ^ (0 : Int).toNat) = k * ((2 ^ (-(0 : Int)).toNat : Nat) : Int)
    by_cases h0 : k = 0
    · subst h0; simp [Core.signed]
    · have hi : i ≠ 0 := by rw [hk]; exact Int.mul_ne_zero h0 hj
      have hsk : s = decide (k < 0) := by
        rw [hsgn hi, hk]
        rcases Int.lt_or_gt_of_ne h0 with a1 | a1 <;> rcases Int.lt_or_gt_of_ne hj with a2 | a2
        · have := Int.mul_pos_of_neg_of_neg a1 a2; simp [show ¬ k * j < 0 by omega, a1, a2]
        · have := Int.mul_neg_of_neg_of_pos a1 a2; simp [this, a1, show ¬ j < 0 by omega]
        · have := Int.mul_neg_of_pos_of_neg a1 a2; simp [this, show ¬ k < 0 by omega, a2]
        · have := Int.mul_pos a1 a2; simp [show ¬ k * j < 0 by omega, show ¬ k < 0 by omega, show ¬ j < 0 by omega]
      rw [hsk]
      by_cases hn : k < 0
      · simp [Core.signed, hn]; omega
      · simp [Core.signed, hn]; omega
  have h1 : Core.roundRatio Core.b64 s i.natAbs j.natAbs 0 = Core.round Core.b64 (.fin s k.natAbs 0) := by
    show _ = Core.roundRatio Core.b64 s k.natAbs 1 0
    refine Core.roundRatio_congr (by omega) (by omega) ?_
    rw [hk, Int.natAbs_mul]; simp
  rw [h1]
  exact Core.whole_round Core.good_b64 Core.wide_b64 hs hw
theorem own_zv {s : Bool} {c : Nat} {q x : Int} (h : Core.signed s (Core.inUnits c q (-1074)) = x) : Core.zval Core.b64 (.fin s c q) = x := by
  show Core.signed s (Core.inUnits c q Core.b64.qmin) = x
  rw [Core.qmin_b64]; exact h
theorem own_sg {s : Bool} {k : Nat} {z : Int} (h : Core.signed s k = z) : Core.signed s z.natAbs = z := by rw [← h, Core.natAbs_signed]
theorem own_sum {a b : UInt64} {x y : Int} (ha : own_At a x) (hb : own_At b y) (hr : own_Rep (x + y).natAbs) : own_At (FP.dadd a b) (x + y) := by
  obtain ⟨s, c, q, ea, hx⟩ := ha
  obtain ⟨t, d, r, eb, hy⟩ := hb
  have fa := Core.val64_fits a; rw [ea] at fa
  have fb := Core.val64_fits b; rw [eb] at fb
  obtain ⟨sg, n, e, he, hq, hs⟩ := Core.sum_units fa fb
  rw [own_zv hx, own_zv hy, Core.qmin_b64] at hs
  rw [Core.qmin_b64] at hq
  have hn : n * 2 ^ (e + 1074).toNat = (x + y).natAbs := by
    rw [← hs, Core.natAbs_signed]; unfold Core.inUnits; congr 2
  obtain ⟨c', q', hr', hu⟩ := own_rr (s := sg) (A := n) (B := 1) (e := e) (by decide) hr (by rw [hn, show (-(e + 1074)).toNat = 0 by omega]; simp)
  refine ⟨sg, c', q', ?_, ?_⟩
  · show Core.val64 (Core.dadd a b) = _
    rw [Core.val64_dadd, ea, eb, he]; exact hr'
  · rw [hu]; exact own_sg hs
theorem own_neg {a : UInt64} {x : Int} (ha : own_At a x) : own_At (FP.dneg a) (-x) := by
  obtain ⟨s, c, q, ea, hx⟩ := ha
  refine ⟨!s, c, q, ?_, ?_⟩
  · rw [FP.val64_dneg, ea]; rfl
  · rw [← hx]; cases s <;> simp [Core.signed]
theorem own_sub {a b : UInt64} {x y : Int} (ha : own_At a x) (hb : own_At b y) (hr : own_Rep (x - y).natAbs) : own_At (FP.dsub a b) (x - y) := by
  obtain ⟨s, c, q, ea, hx⟩ := ha
  obtain ⟨t, d, r, eb, hy⟩ := hb
  have fa := Core.val64_fits a; rw [ea] at fa
  have fb := Core.val64_fits b; rw [eb] at fb
  have fb' : Core.fits Core.b64 (.fin (!t) d r) := fb
  have hy' : Core.signed (!t) (Core.inUnits d r (-1074)) = -y := by rw [← hy]; cases t <;> simp [Core.signed]
  obtain ⟨sg, n, e, he, hq, hs⟩ := Core.sum_units fa fb'
  rw [own_zv hx, own_zv hy', Core.qmin_b64, ← Int.sub_eq_add_neg] at hs
  rw [Core.qmin_b64] at hq
  have hn : n * 2 ^ (e + 1074).toNat = (x - y).natAbs := by
    rw [← hs, Core.natAbs_signed]; unfold Core.inUnits; congr 2
  obtain ⟨c', q', hr', hu⟩ := own_rr (s := sg) (A := n) (B := 1) (e := e) (by decide) hr (by rw [hn, show (-(e + 1074)).toNat = 0 by omega]; simp)
  refine ⟨sg, c', q', ?_, ?_⟩
  · show Core.val64 (Core.dsub a b) = _
    rw [Core.val64_dsub, ea, eb]
    show Core.round Core.b64 (Core.exactSum (.fin s c q) (.fin (!t) d r)) = _
    rw [he]; exact hr'
  · rw [hu]; exact own_sg hs
theorem own_mul {a b : UInt64} {x y z : Int} (ha : own_At a x) (hb : own_At b y) (hz : x * y = z * (Core.one64 : Int)) (hr : own_Rep z.natAbs) : own_At (FP.dmul a b) z := by
  obtain ⟨s, c, q, ea, hx⟩ := ha
  obtain ⟨t, d, r, eb, hy⟩ := hb
  have fa := Core.val64_fits a; rw [ea] at fa
  have fb := Core.val64_fits b; rw [eb] at fb
  obtain ⟨he, hq, hu⟩ := Core.product_units fa fb
  rw [Core.qmin_b64] at hq hu
  have hX : Core.zmag Core.b64 (.fin s c q) = x.natAbs := by
    rw [← hx, Core.natAbs_signed]; show Core.inUnits c q Core.b64.qmin = _; rw [Core.qmin_b64]
  have hY : Core.zmag Core.b64 (.fin t d r) = y.natAbs := by
    rw [← hy, Core.natAbs_signed]; show Core.inUnits d r Core.b64.qmin = _; rw [Core.qmin_b64]
  have hN : x.natAbs * y.natAbs = z.natAbs * 2 ^ 1074 := by
    have := congrArg Int.natAbs hz
    rw [Int.natAbs_mul, Int.natAbs_mul, Int.natAbs_natCast] at this
    exact this
  rw [hX, hY, hN] at hu
  have hu' : c * d * 2 ^ (q + r + 2148).toNat = z.natAbs * 2 ^ 1074 := by
    rw [← hu]; unfold Core.inUnits; congr 2
  obtain ⟨c', q', hr', hw⟩ := own_rr (s := s != t) (A := c * d) (B := 1) (e := q + r) (by decide) hr (by rw [Nat.mul_one]; exact own_shift hu' (by omega))
  refine ⟨s != t, c', q', ?_, ?_⟩
  · show Core.val64 (Core.dmul a b) = _
    rw [Core.val64_dmul, ea, eb, he]; exact hr'
  · rw [hw]
    have p : (Core.one64 : Int) ≠ 0 := by have := Core.one64_pos; omega
    refine Int.eq_of_mul_eq_mul_right p ?_
    rw [← hz, ← Core.signed_mul, show z.natAbs * Core.one64 = x.natAbs * y.natAbs from hN.symm, Core.signed_xor, own_sg hx, own_sg hy]
theorem own_div {a b : UInt64} {x y z : Int} (ha : own_At a x) (hb : own_At b y) (h0 : y ≠ 0) (hz : x * (Core.one64 : Int) = z * y) (hr : own_Rep z.natAbs) : own_At (FP.ddiv a b) z := by
  obtain ⟨s, c, q, ea, hx⟩ := ha
  obtain ⟨t, d, r, eb, hy⟩ := hb
  have fa := Core.val64_fits a; rw [ea] at fa
  have fb := Core.val64_fits b; rw [eb] at fb
  have hq : -1074 ≤ q := by have := fa.2.1; rw [Core.qmin_b64] at this; exact this
  have hq2 : -1074 ≤ r := by have := fb.2.1; rw [Core.qmin_b64] at this; exact this
  have hd : d ≠ 0 := fun h => h0 (by rw [← hy, h]; unfold Core.inUnits; rw [Nat.zero_mul]; exact Core.signed_zero t)
  have hX : c * 2 ^ (q + 1074).toNat = x.natAbs := by
    rw [← hx, Core.natAbs_signed]; unfold Core.inUnits; congr 2
  have hY : d * 2 ^ (r + 1074).toNat = y.natAbs := by
    rw [← hy, Core.natAbs_signed]; unfold Core.inUnits; congr 2
  have hN : x.natAbs * 2 ^ 1074 = z.natAbs * y.natAbs := by
    have := congrArg Int.natAbs hz
    rw [Int.natAbs_mul, Int.natAbs_mul, Int.natAbs_natCast] at this
    exact this
  have hu : c * 2 ^ ((q + 1074).toNat + 1074) = (z.natAbs * d) * 2 ^ (r + 1074).toNat := by
    rw [Nat.pow_add, ← Nat.mul_assoc, hX, hN, ← hY, Nat.mul_assoc]
  obtain ⟨c', q', hr', hw⟩ := own_rr (s := s != t) (A := c) (B := d) (e := q - r) (by omega) hr (own_shift hu (by omega))
  refine ⟨s != t, c', q', ?_, ?_⟩
  · show Core.val64 (Core.ddiv a b) = _
    rw [Core.val64_ddiv, ea, eb]
    show (if d = 0 then _ else Core.roundRatio Core.b64 (s != t) c d (q - r)) = _
    rw [if_neg hd]; exact hr'
  · rw [hw]
    refine Int.eq_of_mul_eq_mul_right h0 ?_
    have e1 : Core.signed (s != t) z.natAbs * Core.signed t y.natAbs = Core.signed s (z.natAbs * y.natAbs) := by
      rw [← Core.signed_xor, show ((s != t) != t) = s by cases s <;> cases t <;> rfl]
    rw [own_sg hy] at e1
    rw [e1, ← hz, ← hN, Core.signed_mul, own_sg hx]
    rfl
end OwnFloat
section OwnInt
theorem own_lmul {x y : Int64} {A B : Nat} (hx : x.toInt.natAbs ≤ A) (hy : y.toInt.natAbs ≤ B) (h : A * B < 2 ^ 62) : (x * y).toInt = x.toInt * y.toInt := by
  have hb : (x.toInt * y.toInt).natAbs ≤ A * B := by rw [Int.natAbs_mul]; exact Nat.mul_le_mul hx hy
  rw [Int64.toInt_mul]; exact Int.bmod_eq_of_le (by omega) (by omega)
theorem own_ladd {x y : Int64} {A B : Nat} (hx : x.toInt.natAbs ≤ A) (hy : y.toInt.natAbs ≤ B) (h : A + B < 2 ^ 62) : (x + y).toInt = x.toInt + y.toInt := by
  rw [Int64.toInt_add]; exact Int.bmod_eq_of_le (by omega) (by omega)
theorem own_lsub {x y : Int64} {A B : Nat} (hx : x.toInt.natAbs ≤ A) (hy : y.toInt.natAbs ≤ B) (h : A + B < 2 ^ 62) : (x - y).toInt = x.toInt - y.toInt := by
  rw [Int64.toInt_sub]; exact Int.bmod_eq_of_le (by omega) (by omega)
theorem own_maskL {x m : Int64} {k : Nat} (hk : k ≤ 63) (hm : m.toBitVec.toNat = 2 ^ k - 1) : 0 ≤ (x &&& m).toInt ∧ (x &&& m).toInt < ((2 ^ k : Nat) : Int) := by
  rw [c_maskL x m k hk hm]
  have p : (0 : Int) < ((2 ^ k : Nat) : Int) := by have := Nat.two_pow_pos k; omega
  exact ⟨Int.emod_nonneg _ (by omega), Int.emod_lt_of_pos _ p⟩
theorem own_maskI {x m : Int32} {k : Nat} (hk : k ≤ 31) (hm : m.toBitVec.toNat = 2 ^ k - 1) : 0 ≤ (x &&& m).toInt ∧ (x &&& m).toInt < ((2 ^ k : Nat) : Int) := by
  rw [c_mask x m k hk hm]
  have p : (0 : Int) < ((2 ^ k : Nat) : Int) := by have := Nat.two_pow_pos k; omega
  exact ⟨Int.emod_nonneg _ (by omega), Int.emod_lt_of_pos _ p⟩
theorem own_cases32 {x : Int32} {n : Nat} (h0 : 0 ≤ x.toInt) (h1 : x.toInt < (n : Int)) : ∃ k : Nat, k < n ∧ x = Int32.ofNat k := by
  refine ⟨x.toInt.toNat, by omega, ?_⟩
  apply Int32.toInt_inj.mp
  have hx := x.toInt_lt
  rw [Int32.toInt_ofNat_of_lt (by omega)]
  omega
theorem own_irem {x z m : Int32} (h : z = x % m) {M : Int} (hm : m.toInt = M) (hM : 0 < M) : -M < z.toInt ∧ z.toInt < M ∧ (0 ≤ x.toInt → 0 ≤ z.toInt) := by
  have q := c_irem x m M hm
  rcases (by omega : x.toInt < 0 ∨ 0 ≤ x.toInt) with a | a
  · have := q.2 a; rw [← h] at this
    have b1 := Int.emod_nonneg (-x.toInt) (show M ≠ 0 by omega); have b2 := Int.emod_lt_of_pos (-x.toInt) hM
    omega
  · have := q.1 a; rw [← h] at this
    have b1 := Int.emod_nonneg x.toInt (show M ≠ 0 by omega); have b2 := Int.emod_lt_of_pos x.toInt hM
    omega
theorem own_ple {j k : Nat} (h : j ≤ k) : (2 : Int) ^ j ≤ 2 ^ k := by
  have h1 : ((2 ^ j : Nat) : Int) = (2 : Int) ^ j := Int.natCast_pow 2 j
  have h2 : ((2 ^ k : Nat) : Int) = (2 : Int) ^ k := Int.natCast_pow 2 k
  have h3 : 2 ^ j ≤ 2 ^ k := Nat.pow_le_pow_right (by decide) h
  rw [← h1, ← h2]; omega
end OwnInt
def own_hd (d : UInt64) : Int32 := ((d.toInt64 ^^^ ((d.toInt64.toUInt64 >>> ((32 : Int32) &&& 0x3f).toInt64.toUInt64).toInt64)).toInt32)
def own_hash (a b : UInt64) : Int32 := ((31 : Int32) * (own_hd a)) + (own_hd b)
def own_cmpD (a b : UInt64) : Int32 := if (cmpValue (FP.dcmp a b) .g) < (0 : Int32) then -1 else if (0 : Int32) < (cmpValue (FP.dcmp a b) .l) then 1 else if (lcmpW (a.toInt64) (b.toInt64)) = (0 : Int32) then 0 else if (lcmpW (a.toInt64) (b.toInt64)) < (0 : Int32) then -1 else 1
def own_eq (a b c d : UInt64) : Int32 := if own_cmpD a c = (0 : Int32) then (if own_cmpD b d = (0 : Int32) then 1 else 0) else 0
theorem own_abs {x : UInt64} (h : Fin64 x) : ¬ ((0 : Int32) < (cmpValue (FP.dcmp (x &&& 0x7fffffffffffffff) (9218868437227405311 : UInt64)) .g)) := by
  have h1 := (le_max_iff h.noNaN).mpr h
  rw [relLe_iff] at h1
  rcases h1 with q | q
  · rw [show FP.dcmp (x &&& 0x7fffffffffffffff) (9218868437227405311 : UInt64) = some .lt from q]; decide
  · rw [show FP.dcmp (x &&& 0x7fffffffffffffff) (9218868437227405311 : UInt64) = some .eq from q]; decide
theorem own_cmp0 {a b : UInt64} (h : own_cmpD a b = 0) : a = b := by
  unfold own_cmpD at h
  split at h
  · exact absurd h (by decide)
  · split at h
    · exact absurd h (by decide)
    · split at h
      · rename_i q
        have e := (lw_eq _ _).mp q
        have := congrArg Int64.toUInt64 e
        simpa using this
      · split at h <;> exact absurd h (by decide)
theorem own_cmpS {a : UInt64} (h : NoNaN64 a) : own_cmpD a a = 0 := by
  unfold own_cmpD
  rw [dcmpV_self h, dcmpV_self h, if_neg (by decide), if_neg (by decide), if_pos ((lw_eq _ _).mpr rfl)]
theorem own_eqS {a b : UInt64} (ha : NoNaN64 a) (hb : NoNaN64 b) : own_eq a b a b = 1 := by unfold own_eq; rw [if_pos (own_cmpS ha), if_pos (own_cmpS hb)]
theorem own_eq1 {a b c d : UInt64} (h : ¬ own_eq a b c d = 0) : a = c ∧ b = d := by
  unfold own_eq at h
  split at h
  · split at h
    · rename_i q1 q2; exact ⟨own_cmp0 q1, own_cmp0 q2⟩
    · exact absurd rfl h
  · exact absurd rfl h
def own_coord (p0 : Int32) : UInt64 := if (p0 &&& (1 : Int32)) = (0 : Int32) then FP.i2d (p0 >>> ((1 : Int32) &&& 31)) else FP.dneg (FP.i2d (p0 >>> ((1 : Int32) &&& 31)))
def own_val (p0 : Int32) : Int64 := if (p0 &&& (1 : Int32)) = (0 : Int32) then (p0 >>> ((1 : Int32) &&& 31)).toInt64 else -((p0 >>> ((1 : Int32) &&& 31)).toInt64)
def own_nzr (p0 : Int32) : Int32 := if (p0 >>> ((1 : Int32) &&& 31)) = (0 : Int32) then (if (p0 &&& (1 : Int32)) = (0 : Int32) then 0 else 1) else 0
def own_same (a c : Int32) : Int32 := if (lcmpW (own_val a) (own_val c)) = (0 : Int32) then (if own_nzr a = own_nzr c then 1 else 0) else 0
theorem own_coD (p : Int32) : FP.Core.DInt (own_val p).toInt (own_coord p) := by
  have h := FP.Core.i2d_int (p >>> ((1 : Int32) &&& 31))
  unfold own_val own_coord
  split
  · rw [c_i2l]; exact h
  · have b := rng32 (p >>> ((1 : Int32) &&& 31))
    rw [Int64.toInt_neg, c_i2l, Int.bmod_eq_of_le (by omega) (by omega)]
    have h2 := FP.Core.whole_negate (show FP.Core.Whole _ (FP.Core.val64 _) from h)
    show FP.Core.Whole _ (FP.Core.val64 _)
    rw [FP.val64_dneg]; exact h2
theorem own_coF (p : Int32) : Fin64 (own_coord p) := own_dint_fin (own_coD p)
theorem own_val0 {p : Int32} (h : (own_val p).toInt = 0) : (p >>> ((1 : Int32) &&& 31)) = 0 := by
  have b := rng32 (p >>> ((1 : Int32) &&& 31))
  apply Int32.toInt_inj.mp
  show _ = (0 : Int)
  unfold own_val at h
  split at h
  · rw [c_i2l] at h; exact h
  · rw [Int64.toInt_neg, c_i2l, Int.bmod_eq_of_le (by omega) (by omega)] at h; omega
theorem own_co0 {p : Int32} (h : (p >>> ((1 : Int32) &&& 31)) = 0) : own_coord p = if own_nzr p = 0 then 0 else 9223372036854775808 := by
  unfold own_coord own_nzr
  rw [h, if_pos rfl]
  by_cases q : (p &&& (1 : Int32)) = 0
  · rw [if_pos q, if_pos q, if_pos rfl]; decide +kernel
  · rw [if_neg q, if_neg q, if_neg (by decide)]; decide +kernel
theorem own_nz01 (p : Int32) : own_nzr p = 0 ∨ own_nzr p = 1 := by unfold own_nzr; split <;> (try split) <;> simp
theorem own_sameE (a c : Int32) : own_same a c = if own_coord a = own_coord c then 1 else 0 := by
  have Da := own_coD a; have Dc := own_coD c
  unfold own_same
  by_cases h : (lcmpW (own_val a) (own_val c)) = (0 : Int32)
  · have hv := (lw_eq _ _).mp h
    rw [if_pos h]
    by_cases h0 : (own_val a).toInt = 0
    · have ea := own_co0 (own_val0 h0)
      have ec := own_co0 (own_val0 (by rw [← hv]; exact h0))
      rw [ea, ec]
      rcases own_nz01 a with qa | qa <;> rcases own_nz01 c with qc | qc <;> rw [qa, qc] <;> decide
    · have e := FP.Core.dint_unique h0 Da (by rw [hv]; exact Dc)
      have nz : ∀ x : Int32, (own_val x).toInt ≠ 0 → own_nzr x = 0 := fun x hx => by
        unfold own_nzr
        rw [if_neg]
        intro q
        apply hx
        unfold own_val
        rw [q]; split <;> decide
      rw [nz a h0, nz c (by rw [← hv]; exact h0), if_pos rfl, if_pos e]
  · rw [if_neg h, if_neg]
    intro e
    apply h
    apply (lw_eq _ _).mpr
    apply Int64.toInt_inj.mp
    have h1 : FP.Core.dcmp (own_coord a) (own_coord c) = some (compare (own_val a).toInt (own_val c).toInt) := FP.Core.dcmp_int Da Dc
    have h2 : FP.Core.dcmp (own_coord a) (own_coord c) = some (compare (own_val a).toInt (own_val a).toInt) := by rw [← e]; exact FP.Core.dcmp_int Da Da
    rw [h1] at h2
    have h3 := Option.some.inj h2
    have h4 : compare (own_val a).toInt (own_val a).toInt = .eq := by simp [compare, compareOfLessAndEq]
    rw [h4] at h3
    exact (FP.Core.compare_eq_iff _ _).mp h3
theorem own_eqE {a b c d : UInt64} (ha : NoNaN64 a) (hb : NoNaN64 b) : own_eq a b c d = if a = c then (if b = d then 1 else 0) else 0 := by
  by_cases h1 : a = c
  · subst h1
    rw [if_pos rfl]
    by_cases h2 : b = d
    · subst h2; rw [if_pos rfl]; exact own_eqS ha hb
    · rw [if_neg h2]; unfold own_eq; rw [if_pos (own_cmpS ha), if_neg (fun q => h2 (own_cmp0 q))]
  · rw [if_neg h1]; unfold own_eq; rw [if_neg (fun q => h1 (own_cmp0 q))]
theorem own_s0 {a c : Int32} (h : own_same a c = 0) : ¬ own_coord a = own_coord c := fun q => by rw [own_sameE, if_pos q] at h; exact absurd h (by decide)
theorem own_s1 {a c : Int32} (h : ¬ own_same a c = 0) : own_coord a = own_coord c := by
  by_cases q : own_coord a = own_coord c
  · exact q
  · rw [own_sameE, if_neg q] at h; exact absurd rfl h
theorem own_root {Z : State} {a0 : Array Value} {O K : String} {n : Nat} (w : (Jvm.Cond.noSuperclass O).before a0 Z = true) (wi : (Jvm.Cond.instantiable K n).before a0 Z = true) (hn : O ≠ K) : NS Z O K := by
  obtain ⟨c, k, h1, h2, h3, -, -⟩ := Cond.noSuperclass_spec w
  obtain ⟨t, k', g1, -⟩ := Cond.instantiable_spec wi
  have ne := ids_ne h1 g1 hn
  refine ⟨c, t, h1, g1, fun fuel => ?_⟩
  cases fuel with
  | zero => rfl
  | succ f => simp [Vm.isSubclassAux, ne, h2, h3]
theorem own_no {Z : State} {a0 : Array Value} {C S K : String} {n : Nat} (w : (Jvm.Cond.superclass C S).before a0 Z = true) (wi : (Jvm.Cond.instantiable K n).before a0 Z = true) (q : NS Z C K) (hn : C ≠ K) : ∃ c t, Z.vm.findClass C = some c ∧ Z.vm.findClass K = some t ∧ Z.vm.assignable c t = false := by
  obtain ⟨c, t, h0, g0, n3⟩ := q
  obtain ⟨p, k, kp, h1, h2, h3, h4, h5, -, h7⟩ := Cond.superclass_spec h0 w
  obtain ⟨t', k', g1, g2, g5, g7, -, -⟩ := Cond.instantiable_spec wi
  cases g0.symm.trans g1
  have ne := ids_ne h0 g0 hn
  have g8 : k'.isInterface = false := by
    have := g7; rw [Bool.or_eq_false_iff] at this; exact this.1
  refine ⟨c, t, h0, g0, ?_⟩
  show Z.vm.assignableAux (255 + 1) c t = false
  simp [Vm.assignableAux, ne, h2, g2, h5, g5, g8, Vm.isSubclass, n3]
theorem own_m4 (x : Int32) : (x &&& (3 : Int32)) = 0 ∨ (x &&& (3 : Int32)) = 1 ∨ (x &&& (3 : Int32)) = 2 ∨ (x &&& (3 : Int32)) = 3 := by
  have b := own_maskI (x := x) (m := 3) (k := 2) (by decide) (by decide)
  obtain ⟨k, hk, e⟩ := own_cases32 (n := 4) b.1 b.2
  rw [e]
  have H : ∀ k : Fin 4, Int32.ofNat k.1 = 0 ∨ Int32.ofNat k.1 = 1 ∨ Int32.ofNat k.1 = 2 ∨ Int32.ofNat k.1 = 3 := by decide
  exact H ⟨k, hk⟩
theorem own_cin {c : Int32} (h1 : ¬ c < (-128 : Int32)) (h2 : ¬ (127 : Int32) < c) : ¬ (c + (128 : Int32)) < 0 ∧ (c + (128 : Int32)) < (256 : Int32) := by
  rw [Int32.lt_iff_toInt_lt] at h1 h2
  rw [show (-128 : Int32).toInt = -128 by decide] at h1
  rw [show (127 : Int32).toInt = 127 by decide] at h2
  have e : (c + (128 : Int32)).toInt = c.toInt + 128 := by
    rw [Int32.toInt_add, show (128 : Int32).toInt = 128 by decide]; exact Int.bmod_eq_of_le (by omega) (by omega)
  rw [Int32.lt_iff_toInt_lt, Int32.lt_iff_toInt_lt, e, show (0 : Int32).toInt = 0 by decide, show (256 : Int32).toInt = 256 by decide]
  omega
theorem d1_0 : decode method_3_code 0 = .ok (.iload_n 0, 1) := by decide +kernel
theorem d1_1 : decode method_3_code 1 = .ok (.iconst 1, 1) := by decide +kernel
theorem d1_2 : decode method_3_code 2 = .ok (.ishr, 1) := by decide +kernel
theorem d1_3 : decode method_3_code 3 = .ok (.istore_n 1, 1) := by decide +kernel
theorem d1_4 : decode method_3_code 4 = .ok (.iload_n 1, 1) := by decide +kernel
theorem d1_5 : decode method_3_code 5 = .ok (.i2d, 1) := by decide +kernel
theorem d1_6 : decode method_3_code 6 = .ok (.dstore_n 2, 1) := by decide +kernel
theorem d1_7 : decode method_3_code 7 = .ok (.iload_n 0, 1) := by decide +kernel
theorem d1_8 : decode method_3_code 8 = .ok (.iconst 1, 1) := by decide +kernel
theorem d1_9 : decode method_3_code 9 = .ok (.iand, 1) := by decide +kernel
theorem d1_10 : decode method_3_code 10 = .ok (.ifCond .eq 8, 3) := by decide +kernel
theorem d1_13 : decode method_3_code 13 = .ok (.dload_n 2, 1) := by decide +kernel
theorem d1_14 : decode method_3_code 14 = .ok (.dneg, 1) := by decide +kernel
theorem d1_15 : decode method_3_code 15 = .ok (.goto 4, 3) := by decide +kernel
theorem d1_18 : decode method_3_code 18 = .ok (.dload_n 2, 1) := by decide +kernel
theorem d1_19 : decode method_3_code 19 = .ok (.dreturn, 1) := by decide +kernel
theorem pn0 : plainName "com/example/minisum/minisum/PointEqualsPinLaw" = true := by first | (simp [plainName, overriddenIn]; done) | decide +kernel
theorem efm1 (m : MethodId) (p0 : Int32) : entryFrame m #[(.int p0)] 4 = mkF m 0 #[.val (.int p0), .unset, .unset, .unset] [] := by first | (simp [entryFrame, mkF, argsToLocals, Value.category]; done) | rfl
def Qm1 (Z : State) (p0 : Int32) (h0 : Heap) (n0 : Nat) (v : Option Value) (h : Heap) (L : List Loc) : Prop := v = some (.double (own_coord p0)) ∧ Fr n0 L ∧ (h = h0)
set_option maxRecDepth 65536 in
set_option maxHeartbeats 40000000 in
theorem rmm1 (l : Launch) (Z : State) (a0 : Array Value) (hw : ∀ d ∈ tables_1, d.before a0 Z = true) (ws : List Jvm.Cond) (p0 : Int32) (h0 : Heap) (n0 : Nat) (Z0 : n0 ≤ h0.size)  :
    MetFree l (⟨"com/example/minisum/minisum/PointEqualsPinLaw", "coord", "(I)D"⟩ : MethodName) (head1 (Jvm.Cond.code (⟨"com/example/minisum/minisum/PointEqualsPinLaw", "coord", "(I)D"⟩ : MethodName) method_3_code 4 (some .double) :: ws) ({ frames := 0, cells := 0, slots := 0, locals := 0 } : Room)) (fun a U => a = #[(.int p0)] ∧ Z.Warmed39 U.vm ∧ U.heap = h0) (fun _ _ _ _ _ => True) (fun _ U o U' => ∃ v L, o = .returned v ∧ Qm1 Z p0 h0 n0 v U'.heap L ∧ FrameEnd U o U' L ({ frames := 0, cells := 0, slots := 0, locals := 0 } : Room).cells ({ frames := 0, cells := 0, slots := 0, locals := 0 } : Room).slots) := by
  refine MetFree.of_bodySF (plainFor_of_name pn0) hisR ?_
  intro p e s m args below meth c s₁ Bd hml0 hP hK
  obtain ⟨rfl, hZ, hh⟩ := hP
  have hx := Bd.exec
  have hby := Bd.bytes
  have hml : c.maxLocals = 4 := hml0
  have hown : s.vm.findClass "com/example/minisum/minisum/PointEqualsPinLaw" = some m.cls := findClass_of_methodNamed Bd.named
  have hnm := (name_of_methodNamed Bd.named Bd.method).1
  have X0 : Stand p l e ({ frames := 0, cells := 0, slots := 0, locals := 0 } : Room) s m #[(.int p0)] below meth c s₁ [] 0 0 := Stand.of_body Bd
  have e0 : s₁.heap = h0 := by rw [← hh, Bd.state]; rfl
  have N0 := Fr.nil n0
  have pre0 : ∀ t, Steps p.tables e below (s₁.setTop (mkF m 0 #[.val (.int p0), .unset, .unset, .unset] [])) t → Steps p.tables e below (s₁.setTop (entryFrame m #[(.int p0)] 4)) t := fun t k => castTop (efm1 m p0) k
  have pre101 : ∀ t, Steps p.tables e below (s₁.setTop (mkF m 10 #[.val (.int p0), .val (.int (p0 >>> ((1 : Int32) &&& 31))), .val (.double (FP.i2d (p0 >>> ((1 : Int32) &&& 31)))), .second] [(.int (p0 &&& (1 : Int32)))])) t → Steps p.tables e below (s₁.setTop (mkF m 0 #[.val (.int p0), .unset, .unset, .unset] [])) t := by
    intro t kt
    show own_S p e below s₁ m 0 #[oI p0, oU, oU, oU] [] _
    refine XS.iloadN X0.here hx rfl (hb hby d1_0) rfl ?_
    show own_S p e below s₁ m 1 #[oI p0, oU, oU, oU] [(.int p0)] _
    refine XS.iconst X0.here hx rfl (hb hby d1_1) ?_
    show own_S p e below s₁ m 2 #[oI p0, oU, oU, oU] [(.int 1), (.int p0)] _
    refine XS.ishr X0.here hx rfl (hb hby d1_2) rfl ?_
    show own_S p e below s₁ m 3 #[oI p0, oU, oU, oU] [(.int (p0 >>> ((1 : Int32) &&& 31)))] _
    refine XS.istoreN X0.here hx rfl (hb hby d1_3) rfl (l' := #[.val (.int p0), .val (.int (p0 >>> ((1 : Int32) &&& 31))), .unset, .unset]) rfl ?_
    show own_S p e below s₁ m 4 #[oI p0, .val (.int (p0 >>> ((1 : Int32) &&& 31))), oU, oU] [] _
    refine XS.iloadN X0.here hx rfl (hb hby d1_4) rfl ?_
    show own_S p e below s₁ m 5 #[oI p0, .val (.int (p0 >>> ((1 : Int32) &&& 31))), oU, oU] [(.int (p0 >>> ((1 : Int32) &&& 31)))] _
    refine XS.i2dS X0.here hx rfl (v := (FP.i2d (p0 >>> ((1 : Int32) &&& 31)))) (hb hby d1_5) rfl rfl ?_
    show own_S p e below s₁ m 6 #[oI p0, .val (.int (p0 >>> ((1 : Int32) &&& 31))), oU, oU] [(.double (FP.i2d (p0 >>> ((1 : Int32) &&& 31))))] _
    refine XS.dstoreN X0.here hx rfl (hb hby d1_6) rfl (l' := #[.val (.int p0), .val (.int (p0 >>> ((1 : Int32) &&& 31))), .val (.double (FP.i2d (p0 >>> ((1 : Int32) &&& 31)))), .second]) rfl ?_
    show own_S p e below s₁ m 7 #[oI p0, .val (.int (p0 >>> ((1 : Int32) &&& 31))), .val (.double (FP.i2d (p0 >>> ((1 : Int32) &&& 31)))), oV] [] _
    refine XS.iloadN X0.here hx rfl (hb hby d1_7) rfl ?_
    show own_S p e below s₁ m 8 #[oI p0, .val (.int (p0 >>> ((1 : Int32) &&& 31))), .val (.double (FP.i2d (p0 >>> ((1 : Int32) &&& 31)))), oV] [(.int p0)] _
    refine XS.iconst X0.here hx rfl (hb hby d1_8) ?_
    show own_S p e below s₁ m 9 #[oI p0, .val (.int (p0 >>> ((1 : Int32) &&& 31))), .val (.double (FP.i2d (p0 >>> ((1 : Int32) &&& 31)))), oV] [(.int 1), (.int p0)] _
    refine XS.iand X0.here hx rfl (hb hby d1_9) rfl ?_
    exact kt
  by_cases ha : (p0 &&& (1 : Int32)) = (0 : Int32)
  · skip
    obtain ⟨fs, hr, hrun, hended, hW, hsame⟩ := X0.leave (v := some (.double (FP.i2d (p0 >>> ((1 : Int32) &&& 31))))) (fun h => by rw [Bd.returns] at h; cases h)
    refine ⟨_, _, pre0 _ (pre101 _ ?_), hrun, hended, _, _, rfl, ?_, ⟨_, rfl⟩, hW, hsame.mono (by decide) (by decide)⟩
    · show own_S p e below s₁ m 10 #[oI p0, .val (.int (p0 >>> ((1 : Int32) &&& 31))), .val (.double (FP.i2d (p0 >>> ((1 : Int32) &&& 31)))), oV] [(.int (p0 &&& (1 : Int32)))] _
      refine XS.ifYes X0.here hx rfl (pc0 := 10) (pc' := 18) rfl (hb hby d1_10) rfl ((if0 _ _).trans (teq (ha : (p0 &&& (1 : Int32)) = (0 : Int32))).1) (by decide) (by decide) ?_
      show own_S p e below s₁ m 18 #[oI p0, .val (.int (p0 >>> ((1 : Int32) &&& 31))), .val (.double (FP.i2d (p0 >>> ((1 : Int32) &&& 31)))), oV] [] _
      refine XS.dloadN X0.here hx rfl (hb hby d1_18) rfl ?_
      show own_S p e below s₁ m 19 #[oI p0, .val (.int (p0 >>> ((1 : Int32) &&& 31))), .val (.double (FP.i2d (p0 >>> ((1 : Int32) &&& 31)))), oV] [(.double (FP.i2d (p0 >>> ((1 : Int32) &&& 31))))] _
      exact retOut X0 hx Bd.returns rfl (Or.inr (Or.inr (Or.inl ⟨rfl, rfl, _, rfl⟩))) (hb hby d1_19) hr
    · show Qm1 Z p0 h0 n0 _ s₁.heap _
      rw [e0]
      exact ⟨(by simp [own_coord, ha]), N0, rfl⟩
  · skip
    obtain ⟨fs, hr, hrun, hended, hW, hsame⟩ := X0.leave (v := some (.double (FP.dneg (FP.i2d (p0 >>> ((1 : Int32) &&& 31)))))) (fun h => by rw [Bd.returns] at h; cases h)
    refine ⟨_, _, pre0 _ (pre101 _ ?_), hrun, hended, _, _, rfl, ?_, ⟨_, rfl⟩, hW, hsame.mono (by decide) (by decide)⟩
    · show own_S p e below s₁ m 10 #[oI p0, .val (.int (p0 >>> ((1 : Int32) &&& 31))), .val (.double (FP.i2d (p0 >>> ((1 : Int32) &&& 31)))), oV] [(.int (p0 &&& (1 : Int32)))] _
      refine XS.ifNo X0.here hx rfl (hb hby d1_10) rfl ((if0 _ _).trans (feq (ha : ¬ ((p0 &&& (1 : Int32)) = (0 : Int32)))).1) ?_
      show own_S p e below s₁ m 13 #[oI p0, .val (.int (p0 >>> ((1 : Int32) &&& 31))), .val (.double (FP.i2d (p0 >>> ((1 : Int32) &&& 31)))), oV] [] _
      refine XS.dloadN X0.here hx rfl (hb hby d1_13) rfl ?_
      show own_S p e below s₁ m 14 #[oI p0, .val (.int (p0 >>> ((1 : Int32) &&& 31))), .val (.double (FP.i2d (p0 >>> ((1 : Int32) &&& 31)))), oV] [(.double (FP.i2d (p0 >>> ((1 : Int32) &&& 31))))] _
      refine XS.dnegS X0.here hx rfl (v := (FP.dneg (FP.i2d (p0 >>> ((1 : Int32) &&& 31))))) (hb hby d1_14) rfl rfl ?_
      show own_S p e below s₁ m 15 #[oI p0, .val (.int (p0 >>> ((1 : Int32) &&& 31))), .val (.double (FP.i2d (p0 >>> ((1 : Int32) &&& 31)))), oV] [(.double (FP.dneg (FP.i2d (p0 >>> ((1 : Int32) &&& 31)))))] _
      refine XS.goto X0.here hx rfl (pc0 := 15) (pc' := 19) rfl (hb hby d1_15) (by decide) (by decide) ?_
      show own_S p e below s₁ m 19 #[oI p0, .val (.int (p0 >>> ((1 : Int32) &&& 31))), .val (.double (FP.i2d (p0 >>> ((1 : Int32) &&& 31)))), oV] [(.double (FP.dneg (FP.i2d (p0 >>> ((1 : Int32) &&& 31)))))] _
      exact retOut X0 hx Bd.returns rfl (Or.inr (Or.inr (Or.inl ⟨rfl, rfl, _, rfl⟩))) (hb hby d1_19) hr
    · show Qm1 Z p0 h0 n0 _ s₁.heap _
      rw [e0]
      exact ⟨(by simp [own_coord, ha]), N0, rfl⟩
theorem d7_0 : decode method_4_code 0 = .ok (.iload_n 0, 1) := by decide +kernel
theorem d7_1 : decode method_4_code 1 = .ok (.iconst 1, 1) := by decide +kernel
theorem d7_2 : decode method_4_code 2 = .ok (.ishr, 1) := by decide +kernel
theorem d7_3 : decode method_4_code 3 = .ok (.i2l, 1) := by decide +kernel
theorem d7_4 : decode method_4_code 4 = .ok (.lstore_n 1, 1) := by decide +kernel
theorem d7_5 : decode method_4_code 5 = .ok (.iload_n 0, 1) := by decide +kernel
theorem d7_6 : decode method_4_code 6 = .ok (.iconst 1, 1) := by decide +kernel
theorem d7_7 : decode method_4_code 7 = .ok (.iand, 1) := by decide +kernel
theorem d7_8 : decode method_4_code 8 = .ok (.ifCond .eq 8, 3) := by decide +kernel
theorem d7_11 : decode method_4_code 11 = .ok (.lload_n 1, 1) := by decide +kernel
theorem d7_12 : decode method_4_code 12 = .ok (.lneg, 1) := by decide +kernel
theorem d7_13 : decode method_4_code 13 = .ok (.goto 4, 3) := by decide +kernel
theorem d7_16 : decode method_4_code 16 = .ok (.lload_n 1, 1) := by decide +kernel
theorem d7_17 : decode method_4_code 17 = .ok (.lreturn, 1) := by decide +kernel
theorem efm7 (m : MethodId) (p0 : Int32) : entryFrame m #[(.int p0)] 3 = mkF m 0 #[.val (.int p0), .unset, .unset] [] := by first | (simp [entryFrame, mkF, argsToLocals, Value.category]; done) | rfl
def Qm7 (Z : State) (p0 : Int32) (h0 : Heap) (n0 : Nat) (v : Option Value) (h : Heap) (L : List Loc) : Prop := v = some (.long (own_val p0)) ∧ Fr n0 L ∧ (h = h0)
set_option maxRecDepth 65536 in
set_option maxHeartbeats 40000000 in
theorem rmm7 (l : Launch) (Z : State) (a0 : Array Value) (hw : ∀ d ∈ tables_1, d.before a0 Z = true) (ws : List Jvm.Cond) (p0 : Int32) (h0 : Heap) (n0 : Nat) (Z0 : n0 ≤ h0.size)  :
    MetFree l (⟨"com/example/minisum/minisum/PointEqualsPinLaw", "value", "(I)J"⟩ : MethodName) (head1 (Jvm.Cond.code (⟨"com/example/minisum/minisum/PointEqualsPinLaw", "value", "(I)J"⟩ : MethodName) method_4_code 3 (some .long) :: ws) ({ frames := 0, cells := 0, slots := 0, locals := 0 } : Room)) (fun a U => a = #[(.int p0)] ∧ Z.Warmed39 U.vm ∧ U.heap = h0) (fun _ _ _ _ _ => True) (fun _ U o U' => ∃ v L, o = .returned v ∧ Qm7 Z p0 h0 n0 v U'.heap L ∧ FrameEnd U o U' L ({ frames := 0, cells := 0, slots := 0, locals := 0 } : Room).cells ({ frames := 0, cells := 0, slots := 0, locals := 0 } : Room).slots) := by
  refine MetFree.of_bodySF (plainFor_of_name pn0) hisR ?_
  intro p e s m args below meth c s₁ Bd hml0 hP hK
  obtain ⟨rfl, hZ, hh⟩ := hP
  have hx := Bd.exec
  have hby := Bd.bytes
  have hml : c.maxLocals = 3 := hml0
  have hown : s.vm.findClass "com/example/minisum/minisum/PointEqualsPinLaw" = some m.cls := findClass_of_methodNamed Bd.named
  have hnm := (name_of_methodNamed Bd.named Bd.method).1
  have X0 : Stand p l e ({ frames := 0, cells := 0, slots := 0, locals := 0 } : Room) s m #[(.int p0)] below meth c s₁ [] 0 0 := Stand.of_body Bd
  have e0 : s₁.heap = h0 := by rw [← hh, Bd.state]; rfl
  have N0 := Fr.nil n0
  have pre0 : ∀ t, Steps p.tables e below (s₁.setTop (mkF m 0 #[.val (.int p0), .unset, .unset] [])) t → Steps p.tables e below (s₁.setTop (entryFrame m #[(.int p0)] 3)) t := fun t k => castTop (efm7 m p0) k
  have pre101 : ∀ t, Steps p.tables e below (s₁.setTop (mkF m 8 #[.val (.int p0), .val (.long ((p0 >>> ((1 : Int32) &&& 31)).toInt64)), .second] [(.int (p0 &&& (1 : Int32)))])) t → Steps p.tables e below (s₁.setTop (mkF m 0 #[.val (.int p0), .unset, .unset] [])) t := by
    intro t kt
    show own_S p e below s₁ m 0 #[oI p0, oU, oU] [] _
    refine XS.iloadN X0.here hx rfl (hb hby d7_0) rfl ?_
    show own_S p e below s₁ m 1 #[oI p0, oU, oU] [(.int p0)] _
    refine XS.iconst X0.here hx rfl (hb hby d7_1) ?_
    show own_S p e below s₁ m 2 #[oI p0, oU, oU] [(.int 1), (.int p0)] _
    refine XS.ishr X0.here hx rfl (hb hby d7_2) rfl ?_
    show own_S p e below s₁ m 3 #[oI p0, oU, oU] [(.int (p0 >>> ((1 : Int32) &&& 31)))] _
    refine XS.i2l X0.here hx rfl (hb hby d7_3) rfl ?_
    show own_S p e below s₁ m 4 #[oI p0, oU, oU] [(.long ((p0 >>> ((1 : Int32) &&& 31)).toInt64))] _
    refine XS.lstoreN X0.here hx rfl (hb hby d7_4) rfl (l' := #[.val (.int p0), .val (.long ((p0 >>> ((1 : Int32) &&& 31)).toInt64)), .second]) rfl ?_
    show own_S p e below s₁ m 5 #[oI p0, .val (.long ((p0 >>> ((1 : Int32) &&& 31)).toInt64)), oV] [] _
    refine XS.iloadN X0.here hx rfl (hb hby d7_5) rfl ?_
    show own_S p e below s₁ m 6 #[oI p0, .val (.long ((p0 >>> ((1 : Int32) &&& 31)).toInt64)), oV] [(.int p0)] _
    refine XS.iconst X0.here hx rfl (hb hby d7_6) ?_
    show own_S p e below s₁ m 7 #[oI p0, .val (.long ((p0 >>> ((1 : Int32) &&& 31)).toInt64)), oV] [(.int 1), (.int p0)] _
    refine XS.iand X0.here hx rfl (hb hby d7_7) rfl ?_
    exact kt
  by_cases ha : (p0 &&& (1 : Int32)) = (0 : Int32)
  · skip
    obtain ⟨fs, hr, hrun, hended, hW, hsame⟩ := X0.leave (v := some (.long ((p0 >>> ((1 : Int32) &&& 31)).toInt64))) (fun h => by rw [Bd.returns] at h; cases h)
    refine ⟨_, _, pre0 _ (pre101 _ ?_), hrun, hended, _, _, rfl, ?_, ⟨_, rfl⟩, hW, hsame.mono (by decide) (by decide)⟩
    · show own_S p e below s₁ m 8 #[oI p0, .val (.long ((p0 >>> ((1 : Int32) &&& 31)).toInt64)), oV] [(.int (p0 &&& (1 : Int32)))] _
      refine XS.ifYes X0.here hx rfl (pc0 := 8) (pc' := 16) rfl (hb hby d7_8) rfl ((if0 _ _).trans (teq (ha : (p0 &&& (1 : Int32)) = (0 : Int32))).1) (by decide) (by decide) ?_
      show own_S p e below s₁ m 16 #[oI p0, .val (.long ((p0 >>> ((1 : Int32) &&& 31)).toInt64)), oV] [] _
      refine XS.lloadN X0.here hx rfl (hb hby d7_16) rfl ?_
      show own_S p e below s₁ m 17 #[oI p0, .val (.long ((p0 >>> ((1 : Int32) &&& 31)).toInt64)), oV] [(.long ((p0 >>> ((1 : Int32) &&& 31)).toInt64))] _
      exact retOut X0 hx Bd.returns rfl (Or.inr (Or.inl ⟨rfl, rfl, _, rfl⟩)) (hb hby d7_17) hr
    · show Qm7 Z p0 h0 n0 _ s₁.heap _
      rw [e0]
      exact ⟨(by simp [own_val, ha]), N0, rfl⟩
  · skip
    obtain ⟨fs, hr, hrun, hended, hW, hsame⟩ := X0.leave (v := some (.long (-((p0 >>> ((1 : Int32) &&& 31)).toInt64)))) (fun h => by rw [Bd.returns] at h; cases h)
    refine ⟨_, _, pre0 _ (pre101 _ ?_), hrun, hended, _, _, rfl, ?_, ⟨_, rfl⟩, hW, hsame.mono (by decide) (by decide)⟩
    · show own_S p e below s₁ m 8 #[oI p0, .val (.long ((p0 >>> ((1 : Int32) &&& 31)).toInt64)), oV] [(.int (p0 &&& (1 : Int32)))] _
      refine XS.ifNo X0.here hx rfl (hb hby d7_8) rfl ((if0 _ _).trans (feq (ha : ¬ ((p0 &&& (1 : Int32)) = (0 : Int32)))).1) ?_
      show own_S p e below s₁ m 11 #[oI p0, .val (.long ((p0 >>> ((1 : Int32) &&& 31)).toInt64)), oV] [] _
      refine XS.lloadN X0.here hx rfl (hb hby d7_11) rfl ?_
      show own_S p e below s₁ m 12 #[oI p0, .val (.long ((p0 >>> ((1 : Int32) &&& 31)).toInt64)), oV] [(.long ((p0 >>> ((1 : Int32) &&& 31)).toInt64))] _
      refine XS.lneg X0.here hx rfl (hb hby d7_12) rfl ?_
      show own_S p e below s₁ m 13 #[oI p0, .val (.long ((p0 >>> ((1 : Int32) &&& 31)).toInt64)), oV] [(.long (-((p0 >>> ((1 : Int32) &&& 31)).toInt64)))] _
      refine XS.goto X0.here hx rfl (pc0 := 13) (pc' := 17) rfl (hb hby d7_13) (by decide) (by decide) ?_
      show own_S p e below s₁ m 17 #[oI p0, .val (.long ((p0 >>> ((1 : Int32) &&& 31)).toInt64)), oV] [(.long (-((p0 >>> ((1 : Int32) &&& 31)).toInt64)))] _
      exact retOut X0 hx Bd.returns rfl (Or.inr (Or.inl ⟨rfl, rfl, _, rfl⟩)) (hb hby d7_17) hr
    · show Qm7 Z p0 h0 n0 _ s₁.heap _
      rw [e0]
      exact ⟨(by simp [own_val, ha]), N0, rfl⟩
theorem d15_0 : decode method_5_code 0 = .ok (.iload_n 0, 1) := by decide +kernel
theorem d15_1 : decode method_5_code 1 = .ok (.iconst 1, 1) := by decide +kernel
theorem d15_2 : decode method_5_code 2 = .ok (.ishr, 1) := by decide +kernel
theorem d15_3 : decode method_5_code 3 = .ok (.ifCond .ne 13, 3) := by decide +kernel
theorem d15_6 : decode method_5_code 6 = .ok (.iload_n 0, 1) := by decide +kernel
theorem d15_7 : decode method_5_code 7 = .ok (.iconst 1, 1) := by decide +kernel
theorem d15_8 : decode method_5_code 8 = .ok (.iand, 1) := by decide +kernel
theorem d15_9 : decode method_5_code 9 = .ok (.ifCond .eq 7, 3) := by decide +kernel
theorem d15_12 : decode method_5_code 12 = .ok (.iconst 1, 1) := by decide +kernel
theorem d15_13 : decode method_5_code 13 = .ok (.goto 4, 3) := by decide +kernel
theorem d15_16 : decode method_5_code 16 = .ok (.iconst 0, 1) := by decide +kernel
theorem d15_17 : decode method_5_code 17 = .ok (.ireturn, 1) := by decide +kernel
theorem efm15 (m : MethodId) (p0 : Int32) : entryFrame m #[(.int p0)] 1 = mkF m 0 #[.val (.int p0)] [] := by first | (simp [entryFrame, mkF, argsToLocals, Value.category]; done) | rfl
def Qm15 (Z : State) (p0 : Int32) (h0 : Heap) (n0 : Nat) (v : Option Value) (h : Heap) (L : List Loc) : Prop := v = some (.int (own_nzr p0)) ∧ Fr n0 L ∧ (h = h0)
set_option maxRecDepth 65536 in
set_option maxHeartbeats 40000000 in
theorem rmm15 (l : Launch) (Z : State) (a0 : Array Value) (hw : ∀ d ∈ tables_1, d.before a0 Z = true) (ws : List Jvm.Cond) (p0 : Int32) (h0 : Heap) (n0 : Nat) (Z0 : n0 ≤ h0.size)  :
    MetFree l (⟨"com/example/minisum/minisum/PointEqualsPinLaw", "negZero", "(I)Z"⟩ : MethodName) (head1 (Jvm.Cond.code (⟨"com/example/minisum/minisum/PointEqualsPinLaw", "negZero", "(I)Z"⟩ : MethodName) method_5_code 1 (some .boolean) :: ws) ({ frames := 0, cells := 0, slots := 0, locals := 0 } : Room)) (fun a U => a = #[(.int p0)] ∧ Z.Warmed39 U.vm ∧ U.heap = h0) (fun _ _ _ _ _ => True) (fun _ U o U' => ∃ v L, o = .returned v ∧ Qm15 Z p0 h0 n0 v U'.heap L ∧ FrameEnd U o U' L ({ frames := 0, cells := 0, slots := 0, locals := 0 } : Room).cells ({ frames := 0, cells := 0, slots := 0, locals := 0 } : Room).slots) := by
  refine MetFree.of_bodySF (plainFor_of_name pn0) hisR ?_
  intro p e s m args below meth c s₁ Bd hml0 hP hK
  obtain ⟨rfl, hZ, hh⟩ := hP
  have hx := Bd.exec
  have hby := Bd.bytes
  have hml : c.maxLocals = 1 := hml0
  have hown : s.vm.findClass "com/example/minisum/minisum/PointEqualsPinLaw" = some m.cls := findClass_of_methodNamed Bd.named
  have hnm := (name_of_methodNamed Bd.named Bd.method).1
  have X0 : Stand p l e ({ frames := 0, cells := 0, slots := 0, locals := 0 } : Room) s m #[(.int p0)] below meth c s₁ [] 0 0 := Stand.of_body Bd
  have e0 : s₁.heap = h0 := by rw [← hh, Bd.state]; rfl
  have N0 := Fr.nil n0
  have pre0 : ∀ t, Steps p.tables e below (s₁.setTop (mkF m 0 #[.val (.int p0)] [])) t → Steps p.tables e below (s₁.setTop (entryFrame m #[(.int p0)] 1)) t := fun t k => castTop (efm15 m p0) k
  have pre101 : ∀ t, Steps p.tables e below (s₁.setTop (mkF m 3 #[.val (.int p0)] [(.int (p0 >>> ((1 : Int32) &&& 31)))])) t → Steps p.tables e below (s₁.setTop (mkF m 0 #[.val (.int p0)] [])) t := by
    intro t kt
    show own_S p e below s₁ m 0 #[oI p0] [] _
    refine XS.iloadN X0.here hx rfl (hb hby d15_0) rfl ?_
    show own_S p e below s₁ m 1 #[oI p0] [(.int p0)] _
    refine XS.iconst X0.here hx rfl (hb hby d15_1) ?_
    show own_S p e below s₁ m 2 #[oI p0] [(.int 1), (.int p0)] _
    refine XS.ishr X0.here hx rfl (hb hby d15_2) rfl ?_
    exact kt
  by_cases ha : (p0 >>> ((1 : Int32) &&& 31)) = (0 : Int32)
  · skip
    have pre102 : ∀ t, Steps p.tables e below (s₁.setTop (mkF m 9 #[.val (.int p0)] [(.int (p0 &&& (1 : Int32)))])) t → Steps p.tables e below (s₁.setTop (mkF m 0 #[.val (.int p0)] [])) t := by
      intro t kt
      refine pre101 _ ?_
      show own_S p e below s₁ m 3 #[oI p0] [(.int (p0 >>> ((1 : Int32) &&& 31)))] _
      refine XS.ifNo X0.here hx rfl (hb hby d15_3) rfl ((if0 _ _).trans (teq (ha : (p0 >>> ((1 : Int32) &&& 31)) = (0 : Int32))).2) ?_
      show own_S p e below s₁ m 6 #[oI p0] [] _
      refine XS.iloadN X0.here hx rfl (hb hby d15_6) rfl ?_
      show own_S p e below s₁ m 7 #[oI p0] [(.int p0)] _
      refine XS.iconst X0.here hx rfl (hb hby d15_7) ?_
      show own_S p e below s₁ m 8 #[oI p0] [(.int 1), (.int p0)] _
      refine XS.iand X0.here hx rfl (hb hby d15_8) rfl ?_
      exact kt
    by_cases hb_ : (p0 &&& (1 : Int32)) = (0 : Int32)
    · skip
      obtain ⟨fs, hr, hrun, hended, hW, hsame⟩ := X0.leave (v := some (.int 0)) (fun h => by rw [Bd.returns] at h; cases h)
      refine ⟨_, _, pre0 _ (pre102 _ ?_), hrun, hended, _, _, rfl, ?_, ⟨_, rfl⟩, hW, hsame.mono (by decide) (by decide)⟩
      · show own_S p e below s₁ m 9 #[oI p0] [(.int (p0 &&& (1 : Int32)))] _
        refine XS.ifYes X0.here hx rfl (pc0 := 9) (pc' := 16) rfl (hb hby d15_9) rfl ((if0 _ _).trans (teq (hb_ : (p0 &&& (1 : Int32)) = (0 : Int32))).1) (by decide) (by decide) ?_
        show own_S p e below s₁ m 16 #[oI p0] [] _
        refine XS.iconst X0.here hx rfl (hb hby d15_16) ?_
        show own_S p e below s₁ m 17 #[oI p0] [(.int 0)] _
        exact retN X0 hx (t := .boolean) Bd.returns (by simp) (hb hby d15_17) hr
      · show Qm15 Z p0 h0 n0 _ s₁.heap _
        rw [e0]
        exact ⟨(by simp [own_nzr, *]), N0, rfl⟩
    · skip
      obtain ⟨fs, hr, hrun, hended, hW, hsame⟩ := X0.leave (v := some (.int 1)) (fun h => by rw [Bd.returns] at h; cases h)
      refine ⟨_, _, pre0 _ (pre102 _ ?_), hrun, hended, _, _, rfl, ?_, ⟨_, rfl⟩, hW, hsame.mono (by decide) (by decide)⟩
      · show own_S p e below s₁ m 9 #[oI p0] [(.int (p0 &&& (1 : Int32)))] _
        refine XS.ifNo X0.here hx rfl (hb hby d15_9) rfl ((if0 _ _).trans (feq (hb_ : ¬ ((p0 &&& (1 : Int32)) = (0 : Int32)))).1) ?_
        show own_S p e below s₁ m 12 #[oI p0] [] _
        refine XS.iconst X0.here hx rfl (hb hby d15_12) ?_
        show own_S p e below s₁ m 13 #[oI p0] [(.int 1)] _
        refine XS.goto X0.here hx rfl (pc0 := 13) (pc' := 17) rfl (hb hby d15_13) (by decide) (by decide) ?_
        show own_S p e below s₁ m 17 #[oI p0] [(.int 1)] _
        exact retN X0 hx (t := .boolean) Bd.returns (by simp) (hb hby d15_17) hr
      · show Qm15 Z p0 h0 n0 _ s₁.heap _
        rw [e0]
        exact ⟨(by simp [own_nzr, *]), N0, rfl⟩
  · skip
    obtain ⟨fs, hr, hrun, hended, hW, hsame⟩ := X0.leave (v := some (.int 0)) (fun h => by rw [Bd.returns] at h; cases h)
    refine ⟨_, _, pre0 _ (pre101 _ ?_), hrun, hended, _, _, rfl, ?_, ⟨_, rfl⟩, hW, hsame.mono (by decide) (by decide)⟩
    · show own_S p e below s₁ m 3 #[oI p0] [(.int (p0 >>> ((1 : Int32) &&& 31)))] _
      refine XS.ifYes X0.here hx rfl (pc0 := 3) (pc' := 16) rfl (hb hby d15_3) rfl ((if0 _ _).trans (feq (ha : ¬ ((p0 >>> ((1 : Int32) &&& 31)) = (0 : Int32)))).2) (by decide) (by decide) ?_
      show own_S p e below s₁ m 16 #[oI p0] [] _
      refine XS.iconst X0.here hx rfl (hb hby d15_16) ?_
      show own_S p e below s₁ m 17 #[oI p0] [(.int 0)] _
      exact retN X0 hx (t := .boolean) Bd.returns (by simp) (hb hby d15_17) hr
    · show Qm15 Z p0 h0 n0 _ s₁.heap _
      rw [e0]
      exact ⟨(by simp [own_nzr, *]), N0, rfl⟩
theorem pd0 : parseMethodDescriptor "(I)J" = some ⟨[.int], some .long⟩ := by decide +kernel
theorem pd1 : parseMethodDescriptor "(I)Z" = some ⟨[.int], some .boolean⟩ := by decide +kernel
theorem d6_0 : decode method_6_code 0 = .ok (.iload_n 0, 1) := by decide +kernel
theorem d6_1 : decode method_6_code 1 = .ok (.invokestatic 32, 3) := by decide +kernel
theorem d6_4 : decode method_6_code 4 = .ok (.iload_n 1, 1) := by decide +kernel
theorem d6_5 : decode method_6_code 5 = .ok (.invokestatic 32, 3) := by decide +kernel
theorem d6_8 : decode method_6_code 8 = .ok (.lcmp, 1) := by decide +kernel
theorem d6_9 : decode method_6_code 9 = .ok (.ifCond .ne 18, 3) := by decide +kernel
theorem d6_12 : decode method_6_code 12 = .ok (.iload_n 0, 1) := by decide +kernel
theorem d6_13 : decode method_6_code 13 = .ok (.invokestatic 36, 3) := by decide +kernel
theorem d6_16 : decode method_6_code 16 = .ok (.iload_n 1, 1) := by decide +kernel
theorem d6_17 : decode method_6_code 17 = .ok (.invokestatic 36, 3) := by decide +kernel
theorem d6_20 : decode method_6_code 20 = .ok (.if_icmp .ne 7, 3) := by decide +kernel
theorem d6_23 : decode method_6_code 23 = .ok (.iconst 1, 1) := by decide +kernel
theorem d6_24 : decode method_6_code 24 = .ok (.goto 4, 3) := by decide +kernel
theorem d6_27 : decode method_6_code 27 = .ok (.iconst 0, 1) := by decide +kernel
theorem d6_28 : decode method_6_code 28 = .ok (.ireturn, 1) := by decide +kernel
theorem efm6 (m : MethodId) (p0 : Int32) (p1 : Int32) : entryFrame m #[(.int p0), (.int p1)] 2 = mkF m 0 #[.val (.int p0), .val (.int p1)] [] := by first | (simp [entryFrame, mkF, argsToLocals, Value.category]; done) | rfl
def Qm6 (Z : State) (p0 : Int32) (p1 : Int32) (h0 : Heap) (n0 : Nat) (v : Option Value) (h : Heap) (L : List Loc) : Prop := v = some (.int (own_same p0 p1)) ∧ Fr n0 L ∧ (h = h0)
set_option maxRecDepth 65536 in
set_option maxHeartbeats 40000000 in
theorem rmm6 (l : Launch) (Z : State) (a0 : Array Value) (hw : ∀ d ∈ tables_1, d.before a0 Z = true) (ws : List Jvm.Cond) (p0 : Int32) (p1 : Int32) (h0 : Heap) (n0 : Nat) (Z0 : n0 ≤ h0.size)  :
    MetFree l (⟨"com/example/minisum/minisum/PointEqualsPinLaw", "same", "(II)Z"⟩ : MethodName) (head1 (Jvm.Cond.code (⟨"com/example/minisum/minisum/PointEqualsPinLaw", "same", "(II)Z"⟩ : MethodName) method_6_code 2 (some .boolean) :: ws) ({ frames := 1, cells := 0, slots := 0, locals := 16 } : Room)) (fun a U => a = #[(.int p0), (.int p1)] ∧ Z.Warmed39 U.vm ∧ U.heap = h0) (fun _ _ _ _ _ => True) (fun _ U o U' => ∃ v L, o = .returned v ∧ Qm6 Z p0 p1 h0 n0 v U'.heap L ∧ FrameEnd U o U' L ({ frames := 1, cells := 0, slots := 0, locals := 16 } : Room).cells ({ frames := 1, cells := 0, slots := 0, locals := 16 } : Room).slots) := by
  refine MetFree.of_bodySF (plainFor_of_name pn0) hisR ?_
  intro p e s m args below meth c s₁ Bd hml0 hP hK
  obtain ⟨rfl, hZ, hh⟩ := hP
  have hx := Bd.exec
  have hby := Bd.bytes
  have hml : c.maxLocals = 2 := hml0
  have hown : s.vm.findClass "com/example/minisum/minisum/PointEqualsPinLaw" = some m.cls := findClass_of_methodNamed Bd.named
  have hnm := (name_of_methodNamed Bd.named Bd.method).1
  have X0 : Stand p l e ({ frames := 1, cells := 0, slots := 0, locals := 16 } : Room) s m #[(.int p0), (.int p1)] below meth c s₁ [] 0 0 := Stand.of_body Bd
  have e0 : s₁.heap = h0 := by rw [← hh, Bd.state]; rfl
  have N0 := Fr.nil n0
  have pre0 : ∀ t, Steps p.tables e below (s₁.setTop (mkF m 0 #[.val (.int p0), .val (.int p1)] [])) t → Steps p.tables e below (s₁.setTop (entryFrame m #[(.int p0), (.int p1)] 2)) t := fun t k => castTop (efm6 m p0 p1) k
  obtain ⟨_, _, ⟨T101, L101, k101, n101⟩, -, X101, ⟨Lc101, hQ101, l101, y101, z101⟩, st101⟩ := Jvm.LawKit.callS X0 hx (y := (⟨"com/example/minisum/minisum/PointEqualsPinLaw", "value", "(I)J"⟩ : MethodName)) hown (mvT hZ (own_w hw 29 rfl)) (mvT hZ (own_w hw 30 rfl)) (mvT hZ (own_w hw 5 rfl)) (mvT hZ (own_w hw 31 rfl)) (by decide) (backOf (W := 0) (rmm7 l Z a0 hw [] p0 h0 n0 Z0 ) hZ (own_w hw 31 rfl) (own_w hw 5 rfl) (by decide) (by decide)) (g := (mkF m 1 #[.val (.int p0), .val (.int p1)] [(.int p0)])) rfl (by rw [hml]; rfl) (argsL := [(.int p0)]) (rest := []) (lenOf pd0 rfl) rfl (by show 2 * 0 + _ ≤ _; exact Nat.le_of_eq rfl) (hb hby d6_1) (fun _ _ => ⟨rfl, e0, (by decide : 0 + 0 ≤ _), (by decide : 0 + 0 ≤ _)⟩)
  dsimp only [Pt.U, Pt.locs, Pt.cells, Pt.slots] at X101 l101 y101 z101 st101 hQ101
  subst l101 y101 z101
  obtain ⟨rfl, Nq101, P101_0⟩ := hQ101
  have N101 := Fr.app N0 Nq101
  obtain ⟨_, _, ⟨T102, L102, k102, n102⟩, -, X102, ⟨Lc102, hQ102, l102, y102, z102⟩, st102⟩ := Jvm.LawKit.callS X101 hx (y := (⟨"com/example/minisum/minisum/PointEqualsPinLaw", "value", "(I)J"⟩ : MethodName)) hown (mvT hZ (own_w hw 29 rfl)) (mvT hZ (own_w hw 30 rfl)) (mvT hZ (own_w hw 5 rfl)) (mvT hZ (own_w hw 31 rfl)) (by decide) (backOf (W := 2) (rmm7 l Z a0 hw [] p1 h0 n0 Z0 ) hZ (own_w hw 31 rfl) (own_w hw 5 rfl) (by decide) (by decide)) (g := (mkF m 5 #[.val (.int p0), .val (.int p1)] [(.int p1), (.long (own_val p0))])) rfl (by rw [hml]; rfl) (argsL := [(.int p1)]) (rest := [(.long (own_val p0))]) (lenOf pd0 rfl) rfl (by show 2 * 0 + _ ≤ _; exact Nat.le_of_eq rfl) (hb hby d6_5) (fun _ _ => ⟨rfl, P101_0, (by decide : 0 + 0 ≤ _), (by decide : 0 + 0 ≤ _)⟩)
  dsimp only [Pt.U, Pt.locs, Pt.cells, Pt.slots] at X102 l102 y102 z102 st102 hQ102
  subst l102 y102 z102
  obtain ⟨rfl, Nq102, P102_0⟩ := hQ102
  have N102 := Fr.app N101 Nq102
  have pre103 : ∀ t, Steps p.tables e below (T102.setTop (mkF m 9 #[.val (.int p0), .val (.int p1)] [(.int (lcmpW (own_val p0) (own_val p1)))])) t → Steps p.tables e below (s₁.setTop (mkF m 0 #[.val (.int p0), .val (.int p1)] [])) t := by
    intro t kt
    show own_S p e below s₁ m 0 #[oI p0, oI p1] [] _
    refine XS.iloadN X0.here hx rfl (hb hby d6_0) rfl ?_
    show own_S p e below s₁ m 1 #[oI p0, oI p1] [(.int p0)] _
    refine st101 _ ?_
    show own_S p e below T101 m 4 #[oI p0, oI p1] [(.long (own_val p0))] _
    refine XS.iloadN X101.here hx rfl (hb hby d6_4) rfl ?_
    show own_S p e below T101 m 5 #[oI p0, oI p1] [(.int p1), (.long (own_val p0))] _
    refine st102 _ ?_
    show own_S p e below T102 m 8 #[oI p0, oI p1] [(.long (own_val p1)), (.long (own_val p0))] _
    refine XS.lcmp X102.here hx rfl (hb hby d6_8) rfl ?_
    exact kt
  by_cases ha : (lcmpW (own_val p0) (own_val p1)) = (0 : Int32)
  · skip
    obtain ⟨_, _, ⟨T104, L104, k104, n104⟩, -, X104, ⟨Lc104, hQ104, l104, y104, z104⟩, st104⟩ := Jvm.LawKit.callS X102 hx (y := (⟨"com/example/minisum/minisum/PointEqualsPinLaw", "negZero", "(I)Z"⟩ : MethodName)) hown (mvT hZ (own_w hw 76 rfl)) (mvT hZ (own_w hw 77 rfl)) (mvT hZ (own_w hw 5 rfl)) (mvT hZ (own_w hw 78 rfl)) (by decide) (backOf (W := 0) (rmm15 l Z a0 hw [] p0 h0 n0 Z0 ) hZ (own_w hw 78 rfl) (own_w hw 5 rfl) (by decide) (by decide)) (g := (mkF m 13 #[.val (.int p0), .val (.int p1)] [(.int p0)])) rfl (by rw [hml]; rfl) (argsL := [(.int p0)]) (rest := []) (lenOf pd1 rfl) rfl (by show 2 * 0 + _ ≤ _; exact Nat.le_of_eq rfl) (hb hby d6_13) (fun _ _ => ⟨rfl, P102_0, (by decide : 0 + 0 ≤ _), (by decide : 0 + 0 ≤ _)⟩)
    dsimp only [Pt.U, Pt.locs, Pt.cells, Pt.slots] at X104 l104 y104 z104 st104 hQ104
    subst l104 y104 z104
    obtain ⟨rfl, Nq104, P104_0⟩ := hQ104
    have N104 := Fr.app N102 Nq104
    obtain ⟨_, _, ⟨T105, L105, k105, n105⟩, -, X105, ⟨Lc105, hQ105, l105, y105, z105⟩, st105⟩ := Jvm.LawKit.callS X104 hx (y := (⟨"com/example/minisum/minisum/PointEqualsPinLaw", "negZero", "(I)Z"⟩ : MethodName)) hown (mvT hZ (own_w hw 76 rfl)) (mvT hZ (own_w hw 77 rfl)) (mvT hZ (own_w hw 5 rfl)) (mvT hZ (own_w hw 78 rfl)) (by decide) (backOf (W := 1) (rmm15 l Z a0 hw [] p1 h0 n0 Z0 ) hZ (own_w hw 78 rfl) (own_w hw 5 rfl) (by decide) (by decide)) (g := (mkF m 17 #[.val (.int p0), .val (.int p1)] [(.int p1), (.int (own_nzr p0))])) rfl (by rw [hml]; rfl) (argsL := [(.int p1)]) (rest := [(.int (own_nzr p0))]) (lenOf pd1 rfl) rfl (by show 2 * 0 + _ ≤ _; exact Nat.le_of_eq rfl) (hb hby d6_17) (fun _ _ => ⟨rfl, P104_0, (by decide : 0 + 0 ≤ _), (by decide : 0 + 0 ≤ _)⟩)
    dsimp only [Pt.U, Pt.locs, Pt.cells, Pt.slots] at X105 l105 y105 z105 st105 hQ105
    subst l105 y105 z105
    obtain ⟨rfl, Nq105, P105_0⟩ := hQ105
    have N105 := Fr.app N104 Nq105
    have pre106 : ∀ t, Steps p.tables e below (T105.setTop (mkF m 20 #[.val (.int p0), .val (.int p1)] [(.int (own_nzr p1)), (.int (own_nzr p0))])) t → Steps p.tables e below (s₁.setTop (mkF m 0 #[.val (.int p0), .val (.int p1)] [])) t := by
      intro t kt
      refine pre103 _ ?_
      show own_S p e below T102 m 9 #[oI p0, oI p1] [(.int (lcmpW (own_val p0) (own_val p1)))] _
      refine XS.ifNo X102.here hx rfl (hb hby d6_9) rfl ((if0 _ _).trans (teq (ha : (lcmpW (own_val p0) (own_val p1)) = (0 : Int32))).2) ?_
      show own_S p e below T102 m 12 #[oI p0, oI p1] [] _
      refine XS.iloadN X102.here hx rfl (hb hby d6_12) rfl ?_
      show own_S p e below T102 m 13 #[oI p0, oI p1] [(.int p0)] _
      refine st104 _ ?_
      show own_S p e below T104 m 16 #[oI p0, oI p1] [(.int (own_nzr p0))] _
      refine XS.iloadN X104.here hx rfl (hb hby d6_16) rfl ?_
      show own_S p e below T104 m 17 #[oI p0, oI p1] [(.int p1), (.int (own_nzr p0))] _
      refine st105 _ ?_
      exact kt
    by_cases hb_ : (own_nzr p0) = (own_nzr p1)
    · skip
      obtain ⟨fs, hr, hrun, hended, hW, hsame⟩ := X105.leave (v := some (.int 1)) (fun h => by rw [Bd.returns] at h; cases h)
      refine ⟨_, _, pre0 _ (pre106 _ ?_), hrun, hended, _, _, rfl, ?_, ⟨_, rfl⟩, hW, hsame.mono (by decide) (by decide)⟩
      · show own_S p e below T105 m 20 #[oI p0, oI p1] [(.int (own_nzr p1)), (.int (own_nzr p0))] _
        refine XS.icmpNo X105.here hx rfl (hb hby d6_20) rfl (teq (hb_ : (own_nzr p0) = (own_nzr p1))).2 ?_
        show own_S p e below T105 m 23 #[oI p0, oI p1] [] _
        refine XS.iconst X105.here hx rfl (hb hby d6_23) ?_
        show own_S p e below T105 m 24 #[oI p0, oI p1] [(.int 1)] _
        refine XS.goto X105.here hx rfl (pc0 := 24) (pc' := 28) rfl (hb hby d6_24) (by decide) (by decide) ?_
        show own_S p e below T105 m 28 #[oI p0, oI p1] [(.int 1)] _
        exact retN X105 hx (t := .boolean) Bd.returns (by simp) (hb hby d6_28) hr
      · show Qm6 Z p0 p1 h0 n0 _ T105.heap _
        rw [P105_0]
        exact ⟨(by simp [own_same, *]), N105, rfl⟩
    · skip
      obtain ⟨fs, hr, hrun, hended, hW, hsame⟩ := X105.leave (v := some (.int 0)) (fun h => by rw [Bd.returns] at h; cases h)
      refine ⟨_, _, pre0 _ (pre106 _ ?_), hrun, hended, _, _, rfl, ?_, ⟨_, rfl⟩, hW, hsame.mono (by decide) (by decide)⟩
      · show own_S p e below T105 m 20 #[oI p0, oI p1] [(.int (own_nzr p1)), (.int (own_nzr p0))] _
        refine XS.icmpYes X105.here hx rfl (pc0 := 20) (pc' := 27) rfl (hb hby d6_20) rfl (feq (hb_ : ¬ ((own_nzr p0) = (own_nzr p1)))).2 (by decide) (by decide) ?_
        show own_S p e below T105 m 27 #[oI p0, oI p1] [] _
        refine XS.iconst X105.here hx rfl (hb hby d6_27) ?_
        show own_S p e below T105 m 28 #[oI p0, oI p1] [(.int 0)] _
        exact retN X105 hx (t := .boolean) Bd.returns (by simp) (hb hby d6_28) hr
      · show Qm6 Z p0 p1 h0 n0 _ T105.heap _
        rw [P105_0]
        exact ⟨(by simp [own_same, *]), N105, rfl⟩
  · skip
    obtain ⟨fs, hr, hrun, hended, hW, hsame⟩ := X102.leave (v := some (.int 0)) (fun h => by rw [Bd.returns] at h; cases h)
    refine ⟨_, _, pre0 _ (pre103 _ ?_), hrun, hended, _, _, rfl, ?_, ⟨_, rfl⟩, hW, hsame.mono (by decide) (by decide)⟩
    · show own_S p e below T102 m 9 #[oI p0, oI p1] [(.int (lcmpW (own_val p0) (own_val p1)))] _
      refine XS.ifYes X102.here hx rfl (pc0 := 9) (pc' := 27) rfl (hb hby d6_9) rfl ((if0 _ _).trans (feq (ha : ¬ ((lcmpW (own_val p0) (own_val p1)) = (0 : Int32)))).2) (by decide) (by decide) ?_
      show own_S p e below T102 m 27 #[oI p0, oI p1] [] _
      refine XS.iconst X102.here hx rfl (hb hby d6_27) ?_
      show own_S p e below T102 m 28 #[oI p0, oI p1] [(.int 0)] _
      exact retN X102 hx (t := .boolean) Bd.returns (by simp) (hb hby d6_28) hr
    · show Qm6 Z p0 p1 h0 n0 _ T102.heap _
      rw [P102_0]
      exact ⟨(by simp [own_same, *]), N102, rfl⟩
theorem pd2 : parseMethodDescriptor "(D)D" = some ⟨[.double], some .double⟩ := by decide +kernel
theorem d4_0 : decode jdk_117_method_8_code 0 = .ok (.dload_n 0, 1) := by decide +kernel
theorem d4_1 : decode jdk_117_method_8_code 1 = .ok (.invokestatic 38, 3) := by decide +kernel
theorem d4_4 : decode jdk_117_method_8_code 4 = .ok (.ldc2_w 111, 3) := by decide +kernel
theorem d4_7 : decode jdk_117_method_8_code 7 = .ok (.dcmp .g, 1) := by decide +kernel
theorem d4_8 : decode jdk_117_method_8_code 8 = .ok (.ifCond .gt 7, 3) := by decide +kernel
theorem d4_11 : decode jdk_117_method_8_code 11 = .ok (.iconst 1, 1) := by decide +kernel
theorem d4_12 : decode jdk_117_method_8_code 12 = .ok (.goto 4, 3) := by decide +kernel
theorem d4_16 : decode jdk_117_method_8_code 16 = .ok (.ireturn, 1) := by decide +kernel
theorem pn1 : plainName "java/lang/Double" = true := by first | (simp [plainName, overriddenIn]; done) | decide +kernel
theorem efm4 (m : MethodId) (d0 : UInt64) : entryFrame m #[(.double d0)] 2 = mkF m 0 #[.val (.double d0), .second] [] := by first | (simp [entryFrame, mkF, argsToLocals, Value.category]; done) | rfl
def Qm4 (Z : State) (d0 : UInt64) (h0 : Heap) (n0 : Nat) (v : Option Value) (h : Heap) (L : List Loc) : Prop := v = some (.int 1) ∧ Fr n0 L ∧ (h = h0)
set_option maxRecDepth 65536 in
set_option maxHeartbeats 40000000 in
theorem rmm4 (l : Launch) (Z : State) (a0 : Array Value) (hw : ∀ d ∈ tables_1, d.before a0 Z = true) (ws : List Jvm.Cond) (d0 : UInt64) (h0 : Heap) (n0 : Nat) (Z0 : n0 ≤ h0.size) (hf : Fin64 d0) :
    MetFree l (⟨"java/lang/Double", "isFinite", "(D)Z"⟩ : MethodName) (head1 (Jvm.Cond.code (⟨"java/lang/Double", "isFinite", "(D)Z"⟩ : MethodName) jdk_117_method_8_code 2 (some .boolean) :: ws) ({ frames := 1, cells := 0, slots := 0, locals := 13 } : Room)) (fun a U => a = #[(.double d0)] ∧ Z.Warmed39 U.vm ∧ U.heap = h0) (fun _ _ _ _ _ => True) (fun _ U o U' => ∃ v L, o = .returned v ∧ Qm4 Z d0 h0 n0 v U'.heap L ∧ FrameEnd U o U' L ({ frames := 1, cells := 0, slots := 0, locals := 13 } : Room).cells ({ frames := 1, cells := 0, slots := 0, locals := 13 } : Room).slots) := by
  refine MetFree.of_bodySF (plainFor_of_name pn1) hisR ?_
  intro p e s m args below meth c s₁ Bd hml0 hP hK
  obtain ⟨rfl, hZ, hh⟩ := hP
  have hx := Bd.exec
  have hby := Bd.bytes
  have hml : c.maxLocals = 2 := hml0
  have hown : s.vm.findClass "java/lang/Double" = some m.cls := findClass_of_methodNamed Bd.named
  have hnm := (name_of_methodNamed Bd.named Bd.method).1
  have X0 : Stand p l e ({ frames := 1, cells := 0, slots := 0, locals := 13 } : Room) s m #[(.double d0)] below meth c s₁ [] 0 0 := Stand.of_body Bd
  have e0 : s₁.heap = h0 := by rw [← hh, Bd.state]; rfl
  have N0 := Fr.nil n0
  have pre0 : ∀ t, Steps p.tables e below (s₁.setTop (mkF m 0 #[.val (.double d0), .second] [])) t → Steps p.tables e below (s₁.setTop (entryFrame m #[(.double d0)] 2)) t := fun t k => castTop (efm4 m d0) k
  obtain ⟨T101, X101, e101, st101⟩ := natS X0 hx hZ hown (own_w hw 17 rfl) (own_w hw 18 rfl) (own_w hw 19 rfl) (own_w hw 20 rfl) (by decide) e0 (W := 0) (fun q => Jvm.Free.Fl.Abs.absD_pays d0 q (by decide) (by decide)) (g := (mkF m 1 #[.val (.double d0), .second] [(.double d0)])) rfl (by rw [hml]; rfl) (argsL := [(.double d0)]) (rest := []) (lenOf pd2 rfl) rfl (by show 2 * 0 + _ ≤ _; exact Nat.le_of_eq rfl) (hb hby d4_1) (by decide) (by decide) ⟨rfl, hf.noNaN⟩ rfl
  obtain ⟨fs, hr, hrun, hended, hW, hsame⟩ := X101.leave (v := some (.int 1)) (fun h => by rw [Bd.returns] at h; cases h)
  refine ⟨_, _, pre0 _ ?_, hrun, hended, _, _, rfl, ?_, ⟨_, rfl⟩, hW, hsame.mono (by decide) (by decide)⟩
  · show own_S p e below s₁ m 0 #[oD d0, oV] [] _
    refine XS.dloadN X0.here hx rfl (hb hby d4_0) rfl ?_
    show own_S p e below s₁ m 1 #[oD d0, oV] [(.double d0)] _
    refine st101 _ ?_
    show own_S p e below T101 m 4 #[oD d0, oV] [(.double (d0 &&& 0x7fffffffffffffff))] _
    refine X101.ldc2DoubleC hx hown (mvT hZ (own_w hw 21 rfl)) (g := (mkF m 4 #[.val (.double d0), .second] [(.double (d0 &&& 0x7fffffffffffffff))])) rfl (hb hby d4_4) _ ?_
    show own_S p e below T101 m 7 #[oD d0, oV] [(.double 9218868437227405311), (.double (d0 &&& 0x7fffffffffffffff))] _
    refine XS.dcmpS X101.here hx rfl (v := (cmpValue (FP.dcmp (d0 &&& 0x7fffffffffffffff) (9218868437227405311 : UInt64)) .g)) (hb hby d4_7) rfl rfl ?_
    show own_S p e below T101 m 8 #[oD d0, oV] [(.int (cmpValue (FP.dcmp (d0 &&& 0x7fffffffffffffff) (9218868437227405311 : UInt64)) .g))] _
    refine XS.ifNo X101.here hx rfl (hb hby d4_8) rfl ((if0 _ _).trans (flt (own_abs hf : ¬ ((0 : Int32) < (cmpValue (FP.dcmp (d0 &&& 0x7fffffffffffffff) (9218868437227405311 : UInt64)) .g)))).2.2.1) ?_
    show own_S p e below T101 m 11 #[oD d0, oV] [] _
    refine XS.iconst X101.here hx rfl (hb hby d4_11) ?_
    show own_S p e below T101 m 12 #[oD d0, oV] [(.int 1)] _
    refine XS.goto X101.here hx rfl (pc0 := 12) (pc' := 16) rfl (hb hby d4_12) (by decide) (by decide) ?_
    show own_S p e below T101 m 16 #[oD d0, oV] [(.int 1)] _
    exact retN X101 hx (t := .boolean) Bd.returns (by simp) (hb hby d4_16) hr
  · show Qm4 Z d0 h0 n0 _ T101.heap _
    rw [e101]
    exact ⟨rfl, N0, rfl⟩
theorem pd3 : parseMethodDescriptor "(D)Z" = some ⟨[.double], some .boolean⟩ := by decide +kernel
theorem sn0 {Z : State} {a0 : Array Value} (hw : ∀ d ∈ tables_1, d.before a0 Z = true) : Jvm.RoadKit.slotOf Z "com/example/minisum/minisum/Point" "y" "D" ≠ Jvm.RoadKit.slotOf Z "com/example/minisum/minisum/Point" "x" "D" := slot_ne (Or.inr (own_w hw 25 rfl)) (Or.inr (own_w hw 23 rfl)) (by decide) (t := .double) (t' := .double) (by decide) (by decide)
theorem sn1 {Z : State} {a0 : Array Value} (hw : ∀ d ∈ tables_1, d.before a0 Z = true) : Jvm.RoadKit.slotOf Z "com/example/minisum/minisum/Point" "x" "D" ≠ Jvm.RoadKit.slotOf Z "com/example/minisum/minisum/Point" "y" "D" := slot_ne (Or.inr (own_w hw 23 rfl)) (Or.inr (own_w hw 25 rfl)) (by decide) (t := .double) (t' := .double) (by decide) (by decide)
theorem d2_0 : decode prog_17_method_1_code 0 = .ok (.aload_n 0, 1) := by decide +kernel
theorem d2_1 : decode prog_17_method_1_code 1 = .ok (.invokespecial 1, 3) := by decide +kernel
theorem d2_4 : decode prog_17_method_1_code 4 = .ok (.dload_n 1, 1) := by decide +kernel
theorem d2_5 : decode prog_17_method_1_code 5 = .ok (.invokestatic 7, 3) := by decide +kernel
theorem d2_8 : decode prog_17_method_1_code 8 = .ok (.ifCond .eq 10, 3) := by decide +kernel
theorem d2_11 : decode prog_17_method_1_code 11 = .ok (.dload_n 3, 1) := by decide +kernel
theorem d2_12 : decode prog_17_method_1_code 12 = .ok (.invokestatic 7, 3) := by decide +kernel
theorem d2_15 : decode prog_17_method_1_code 15 = .ok (.ifCond .ne 18, 3) := by decide +kernel
theorem d2_33 : decode prog_17_method_1_code 33 = .ok (.aload_n 0, 1) := by decide +kernel
theorem d2_34 : decode prog_17_method_1_code 34 = .ok (.dload_n 1, 1) := by decide +kernel
theorem d2_35 : decode prog_17_method_1_code 35 = .ok (.putfield 22, 3) := by decide +kernel
theorem d2_38 : decode prog_17_method_1_code 38 = .ok (.aload_n 0, 1) := by decide +kernel
theorem d2_39 : decode prog_17_method_1_code 39 = .ok (.dload_n 3, 1) := by decide +kernel
theorem d2_40 : decode prog_17_method_1_code 40 = .ok (.putfield 28, 3) := by decide +kernel
theorem d2_43 : decode prog_17_method_1_code 43 = .ok (.return_, 1) := by decide +kernel
theorem pn2 : plainName "com/example/minisum/minisum/Point" = true := by first | (simp [plainName, overriddenIn]; done) | decide +kernel
theorem efm2 (m : MethodId) (r0 : Addr) (d1 : UInt64) (d2 : UInt64) : entryFrame m #[(.ref r0), (.double d1), (.double d2)] 5 = mkF m 0 #[.val (.ref r0), .val (.double d1), .second, .val (.double d2), .second] [] := by first | (simp [entryFrame, mkF, argsToLocals, Value.category]; done) | rfl
def Qm2 (Z : State) (r0 : Addr) (d1 : UInt64) (d2 : UInt64) (u0 : Value) (u1 : Value) (h0 : Heap) (n0 : Nat) (v : Option Value) (h : Heap) (L : List Loc) : Prop := v = none ∧ Fr n0 L ∧ (Keep h0 h [r0]) ∧ (Exa Z h r0 "com/example/minisum/minisum/Point") ∧ (Fld Z h r0 "com/example/minisum/minisum/Point" "x" "D" (.double d1)) ∧ (Fld Z h r0 "com/example/minisum/minisum/Point" "y" "D" (.double d2))
set_option maxRecDepth 65536 in
set_option maxHeartbeats 40000000 in
theorem rmm2 (l : Launch) (Z : State) (a0 : Array Value) (hw : ∀ d ∈ tables_1, d.before a0 Z = true) (ws : List Jvm.Cond) (r0 : Addr) (d1 : UInt64) (d2 : UInt64) (u0 : Value) (u1 : Value) (h0 : Heap) (n0 : Nat) (Z0 : n0 ≤ h0.size) (F_x_r0 : Fld Z h0 r0 "com/example/minisum/minisum/Point" "x" "D" u0) (F_y_r0 : Fld Z h0 r0 "com/example/minisum/minisum/Point" "y" "D" u1) (E_r0 : Exa Z h0 r0 "com/example/minisum/minisum/Point") (g_r0 : n0 ≤ r0) (hf1 : Fin64 d1) (hf2 : Fin64 d2) :
    MetFree l (⟨"com/example/minisum/minisum/Point", "<init>", "(DD)V"⟩ : MethodName) (head1 (Jvm.Cond.code (⟨"com/example/minisum/minisum/Point", "<init>", "(DD)V"⟩ : MethodName) prog_17_method_1_code 5 none :: ws) ({ frames := 2, cells := 0, slots := 0, locals := 26 } : Room)) (fun a U => a = #[(.ref r0), (.double d1), (.double d2)] ∧ Z.Warmed39 U.vm ∧ U.heap = h0) (fun _ _ _ _ _ => True) (fun _ U o U' => ∃ v L, o = .returned v ∧ Qm2 Z r0 d1 d2 u0 u1 h0 n0 v U'.heap L ∧ FrameEnd U o U' L ({ frames := 2, cells := 0, slots := 0, locals := 26 } : Room).cells ({ frames := 2, cells := 0, slots := 0, locals := 26 } : Room).slots) := by
  refine MetFree.of_bodySF (plainFor_of_name pn2) hisR ?_
  intro p e s m args below meth c s₁ Bd hml0 hP hK
  obtain ⟨rfl, hZ, hh⟩ := hP
  have hx := Bd.exec
  have hby := Bd.bytes
  have hml : c.maxLocals = 5 := hml0
  have hown : s.vm.findClass "com/example/minisum/minisum/Point" = some m.cls := findClass_of_methodNamed Bd.named
  have hnm := (name_of_methodNamed Bd.named Bd.method).1
  have X0 : Stand p l e ({ frames := 2, cells := 0, slots := 0, locals := 26 } : Room) s m #[(.ref r0), (.double d1), (.double d2)] below meth c s₁ [] 0 0 := Stand.of_body Bd
  have e0 : s₁.heap = h0 := by rw [← hh, Bd.state]; rfl
  have N0 := Fr.nil n0
  have pre0 : ∀ t, Steps p.tables e below (s₁.setTop (mkF m 0 #[.val (.ref r0), .val (.double d1), .second, .val (.double d2), .second] [])) t → Steps p.tables e below (s₁.setTop (entryFrame m #[(.ref r0), (.double d1), (.double d2)] 5)) t := fun t k => castTop (efm2 m r0 d1 d2) k
  obtain ⟨T101, X101, e101, st101⟩ := initO X0 hx hZ hown (own_w hw 10 rfl) (own_w hw 11 rfl) (own_w hw 12 rfl) e0 (g := (mkF m 1 #[.val (.ref r0), .val (.double d1), .second, .val (.double d2), .second] [(.ref r0)])) rfl (by rw [hml]; rfl) rfl (hb hby d2_1) (by decide) (W := 0) (by show 2 * 0 + _ ≤ _; exact Nat.le_of_eq rfl) (by decide)
  obtain ⟨_, _, ⟨T102, L102, k102, n102⟩, -, X102, ⟨Lc102, hQ102, l102, y102, z102⟩, st102⟩ := Jvm.LawKit.callS X101 hx (y := (⟨"java/lang/Double", "isFinite", "(D)Z"⟩ : MethodName)) hown (mvT hZ (own_w hw 13 rfl)) (mvT hZ (own_w hw 14 rfl)) (mvT hZ (own_w hw 15 rfl)) (mvT hZ (own_w hw 16 rfl)) (by decide) (backOf (W := 0) (rmm4 l Z a0 hw [] d1 h0 n0 Z0 hf1) hZ (own_w hw 16 rfl) (own_w hw 15 rfl) (by decide) (by decide)) (g := (mkF m 5 #[.val (.ref r0), .val (.double d1), .second, .val (.double d2), .second] [(.double d1)])) rfl (by rw [hml]; rfl) (argsL := [(.double d1)]) (rest := []) (lenOf pd3 rfl) rfl (by show 2 * 0 + _ ≤ _; exact Nat.le_of_eq rfl) (hb hby d2_5) (fun _ _ => ⟨rfl, e101, (by decide : 0 + 0 ≤ _), (by decide : 0 + 0 ≤ _)⟩)
  dsimp only [Pt.U, Pt.locs, Pt.cells, Pt.slots] at X102 l102 y102 z102 st102 hQ102
  subst l102 y102 z102
  obtain ⟨rfl, Nq102, P102_0⟩ := hQ102
  have N102 := Fr.app N0 Nq102
  obtain ⟨_, _, ⟨T103, L103, k103, n103⟩, -, X103, ⟨Lc103, hQ103, l103, y103, z103⟩, st103⟩ := Jvm.LawKit.callS X102 hx (y := (⟨"java/lang/Double", "isFinite", "(D)Z"⟩ : MethodName)) hown (mvT hZ (own_w hw 13 rfl)) (mvT hZ (own_w hw 14 rfl)) (mvT hZ (own_w hw 15 rfl)) (mvT hZ (own_w hw 16 rfl)) (by decide) (backOf (W := 0) (rmm4 l Z a0 hw [] d2 h0 n0 Z0 hf2) hZ (own_w hw 16 rfl) (own_w hw 15 rfl) (by decide) (by decide)) (g := (mkF m 12 #[.val (.ref r0), .val (.double d1), .second, .val (.double d2), .second] [(.double d2)])) rfl (by rw [hml]; rfl) (argsL := [(.double d2)]) (rest := []) (lenOf pd3 rfl) rfl (by show 2 * 0 + _ ≤ _; exact Nat.le_of_eq rfl) (hb hby d2_12) (fun _ _ => ⟨rfl, P102_0, (by decide : 0 + 0 ≤ _), (by decide : 0 + 0 ≤ _)⟩)
  dsimp only [Pt.U, Pt.locs, Pt.cells, Pt.slots] at X103 l103 y103 z103 st103 hQ103
  subst l103 y103 z103
  obtain ⟨rfl, Nq103, P103_0⟩ := hQ103
  have N103 := Fr.app N102 Nq103
  obtain ⟨T104, h104, X104, e104, W104, st104⟩ := putF X103 hx hZ hown (host := "") (Or.inl (own_w hw 22 rfl)) Via.refl P103_0 F_x_r0 E_r0 (Or.inr ⟨(own_w hw 23 rfl), rfl, hnm⟩) (own_w hw 1 rfl) (ty := .double) (by decide) rfl rfl (g := (mkF m 35 #[.val (.ref r0), .val (.double d1), .second, .val (.double d2), .second] [(.double d1), (.ref r0)])) rfl rfl (hb hby d2_35)
  have Fw104 := F_x_r0.same W104
  have N104 := Fr.snoc X104 N103 g_r0
  have ZZ105 : n0 ≤ h104.size := Nat.le_trans Z0 (Nat.le_of_eq W104.size.symm)
  have KK106 : Keep h0 h104 [r0] := (Keep.refl h0 [r0]).wr W104 (Or.inl (List.mem_of_getElem? (i := 0) rfl))
  have Fc107 := (F_y_r0.other W104 (Or.inr (sn0 hw)))
  obtain ⟨T108, h108, X108, e108, W108, st108⟩ := putF X104 hx hZ hown (host := "") (Or.inl (own_w hw 24 rfl)) Via.refl e104 Fc107 (E_r0.wr W104) (Or.inr ⟨(own_w hw 25 rfl), rfl, hnm⟩) (own_w hw 1 rfl) (ty := .double) (by decide) rfl rfl (g := (mkF m 40 #[.val (.ref r0), .val (.double d1), .second, .val (.double d2), .second] [(.double d2), (.ref r0)])) rfl rfl (hb hby d2_40)
  have Fw108 := Fc107.same W108
  have N108 := Fr.snoc X108 N104 g_r0
  have ZZ109 : n0 ≤ h108.size := Nat.le_trans ZZ105 (Nat.le_of_eq W108.size.symm)
  have KK110 : Keep h0 h108 [r0] := KK106.wr W108 (Or.inl (List.mem_of_getElem? (i := 0) rfl))
  obtain ⟨fs, hr, hrun, hended, hW, hsame⟩ := X108.leave (v := none) (fun _ => rfl)
  refine ⟨_, _, pre0 _ ?_, hrun, hended, _, _, rfl, ?_, ⟨_, rfl⟩, hW, hsame.mono (by decide) (by decide)⟩
  · show own_S p e below s₁ m 0 #[oR r0, oD d1, oV, oD d2, oV] [] _
    refine XS.aloadN X0.here hx rfl (hb hby d2_0) rfl rfl ?_
    show own_S p e below s₁ m 1 #[oR r0, oD d1, oV, oD d2, oV] [(.ref r0)] _
    refine st101 _ ?_
    show own_S p e below T101 m 4 #[oR r0, oD d1, oV, oD d2, oV] [] _
    refine XS.dloadN X101.here hx rfl (hb hby d2_4) rfl ?_
    show own_S p e below T101 m 5 #[oR r0, oD d1, oV, oD d2, oV] [(.double d1)] _
    refine st102 _ ?_
    show own_S p e below T102 m 8 #[oR r0, oD d1, oV, oD d2, oV] [(.int 1)] _
    refine XS.ifNo X102.here hx rfl (hb hby d2_8) rfl ((if0 _ _).trans (feq (by decide : ¬ ((1 : Int32) = (0 : Int32)))).1) ?_
    show own_S p e below T102 m 11 #[oR r0, oD d1, oV, oD d2, oV] [] _
    refine XS.dloadN X102.here hx rfl (hb hby d2_11) rfl ?_
    show own_S p e below T102 m 12 #[oR r0, oD d1, oV, oD d2, oV] [(.double d2)] _
    refine st103 _ ?_
    show own_S p e below T103 m 15 #[oR r0, oD d1, oV, oD d2, oV] [(.int 1)] _
    refine XS.ifYes X103.here hx rfl (pc0 := 15) (pc' := 33) rfl (hb hby d2_15) rfl ((if0 _ _).trans (feq (by decide : ¬ ((1 : Int32) = (0 : Int32)))).2) (by decide) (by decide) ?_
    show own_S p e below T103 m 33 #[oR r0, oD d1, oV, oD d2, oV] [] _
    refine XS.aloadN X103.here hx rfl (hb hby d2_33) rfl rfl ?_
    show own_S p e below T103 m 34 #[oR r0, oD d1, oV, oD d2, oV] [(.ref r0)] _
    refine XS.dloadN X103.here hx rfl (hb hby d2_34) rfl ?_
    show own_S p e below T103 m 35 #[oR r0, oD d1, oV, oD d2, oV] [(.double d1), (.ref r0)] _
    refine st104 _ ?_
    show own_S p e below T104 m 38 #[oR r0, oD d1, oV, oD d2, oV] [] _
    refine XS.aloadN X104.here hx rfl (hb hby d2_38) rfl rfl ?_
    show own_S p e below T104 m 39 #[oR r0, oD d1, oV, oD d2, oV] [(.ref r0)] _
    refine XS.dloadN X104.here hx rfl (hb hby d2_39) rfl ?_
    show own_S p e below T104 m 40 #[oR r0, oD d1, oV, oD d2, oV] [(.double d2), (.ref r0)] _
    refine st108 _ ?_
    show own_S p e below T108 m 43 #[oR r0, oD d1, oV, oD d2, oV] [] _
    exact X108.returnOut hx Bd.returns (hb hby d2_43) hr
  · show Qm2 Z r0 d1 d2 u0 u1 h0 n0 _ T108.heap _
    rw [e108]
    exact ⟨rfl, N108, KK110, ((E_r0.wr W104).wr W108), (Fw104.other W108 (Or.inr (sn1 hw))), Fw108⟩
theorem d11_0 : decode jdk_117_method_6_code 0 = .ok (.dload_n 0, 1) := by decide +kernel
theorem d11_1 : decode jdk_117_method_6_code 1 = .ok (.dload_n 0, 1) := by decide +kernel
theorem d11_2 : decode jdk_117_method_6_code 2 = .ok (.dcmp .l, 1) := by decide +kernel
theorem d11_3 : decode jdk_117_method_6_code 3 = .ok (.ifCond .eq 7, 3) := by decide +kernel
theorem d11_10 : decode jdk_117_method_6_code 10 = .ok (.iconst 0, 1) := by decide +kernel
theorem d11_11 : decode jdk_117_method_6_code 11 = .ok (.ireturn, 1) := by decide +kernel
theorem efm11 (m : MethodId) (d0 : UInt64) : entryFrame m #[(.double d0)] 2 = mkF m 0 #[.val (.double d0), .second] [] := by first | (simp [entryFrame, mkF, argsToLocals, Value.category]; done) | rfl
def Qm11 (Z : State) (d0 : UInt64) (h0 : Heap) (n0 : Nat) (v : Option Value) (h : Heap) (L : List Loc) : Prop := v = some (.int 0) ∧ Fr n0 L ∧ (h = h0)
set_option maxRecDepth 65536 in
set_option maxHeartbeats 40000000 in
theorem rmm11 (l : Launch) (Z : State) (a0 : Array Value) (hw : ∀ d ∈ tables_1, d.before a0 Z = true) (ws : List Jvm.Cond) (d0 : UInt64) (h0 : Heap) (n0 : Nat) (Z0 : n0 ≤ h0.size) (hn : NoNaN64 d0) :
    MetFree l (⟨"java/lang/Double", "isNaN", "(D)Z"⟩ : MethodName) (head1 (Jvm.Cond.code (⟨"java/lang/Double", "isNaN", "(D)Z"⟩ : MethodName) jdk_117_method_6_code 2 (some .boolean) :: ws) ({ frames := 0, cells := 0, slots := 0, locals := 0 } : Room)) (fun a U => a = #[(.double d0)] ∧ Z.Warmed39 U.vm ∧ U.heap = h0) (fun _ _ _ _ _ => True) (fun _ U o U' => ∃ v L, o = .returned v ∧ Qm11 Z d0 h0 n0 v U'.heap L ∧ FrameEnd U o U' L ({ frames := 0, cells := 0, slots := 0, locals := 0 } : Room).cells ({ frames := 0, cells := 0, slots := 0, locals := 0 } : Room).slots) := by
  refine MetFree.of_bodySF (plainFor_of_name pn1) hisR ?_
  intro p e s m args below meth c s₁ Bd hml0 hP hK
  obtain ⟨rfl, hZ, hh⟩ := hP
  have hx := Bd.exec
  have hby := Bd.bytes
  have hml : c.maxLocals = 2 := hml0
  have hown : s.vm.findClass "java/lang/Double" = some m.cls := findClass_of_methodNamed Bd.named
  have hnm := (name_of_methodNamed Bd.named Bd.method).1
  have X0 : Stand p l e ({ frames := 0, cells := 0, slots := 0, locals := 0 } : Room) s m #[(.double d0)] below meth c s₁ [] 0 0 := Stand.of_body Bd
  have e0 : s₁.heap = h0 := by rw [← hh, Bd.state]; rfl
  have N0 := Fr.nil n0
  have pre0 : ∀ t, Steps p.tables e below (s₁.setTop (mkF m 0 #[.val (.double d0), .second] [])) t → Steps p.tables e below (s₁.setTop (entryFrame m #[(.double d0)] 2)) t := fun t k => castTop (efm11 m d0) k
  obtain ⟨fs, hr, hrun, hended, hW, hsame⟩ := X0.leave (v := some (.int 0)) (fun h => by rw [Bd.returns] at h; cases h)
  refine ⟨_, _, pre0 _ ?_, hrun, hended, _, _, rfl, ?_, ⟨_, rfl⟩, hW, hsame.mono (by decide) (by decide)⟩
  · show own_S p e below s₁ m 0 #[oD d0, oV] [] _
    refine XS.dloadN X0.here hx rfl (hb hby d11_0) rfl ?_
    show own_S p e below s₁ m 1 #[oD d0, oV] [(.double d0)] _
    refine XS.dloadN X0.here hx rfl (hb hby d11_1) rfl ?_
    show own_S p e below s₁ m 2 #[oD d0, oV] [(.double d0), (.double d0)] _
    refine XS.dcmpS X0.here hx rfl (v := (0 : Int32)) (hb hby d11_2) rfl (dcmpV_self hn .l) ?_
    show own_S p e below s₁ m 3 #[oD d0, oV] [(.int 0)] _
    refine XS.ifYes X0.here hx rfl (pc0 := 3) (pc' := 10) rfl (hb hby d11_3) rfl ((if0 _ _).trans (teq (by decide : (0 : Int32) = (0 : Int32))).1) (by decide) (by decide) ?_
    show own_S p e below s₁ m 10 #[oD d0, oV] [] _
    refine XS.iconst X0.here hx rfl (hb hby d11_10) ?_
    show own_S p e below s₁ m 11 #[oD d0, oV] [(.int 0)] _
    exact retN X0 hx (t := .boolean) Bd.returns (by simp) (hb hby d11_11) hr
  · show Qm11 Z d0 h0 n0 _ s₁.heap _
    rw [e0]
    exact ⟨rfl, N0, rfl⟩
theorem d10_0 : decode jdk_117_method_23_code 0 = .ok (.dload_n 0, 1) := by decide +kernel
theorem d10_1 : decode jdk_117_method_23_code 1 = .ok (.invokestatic 122, 3) := by decide +kernel
theorem d10_4 : decode jdk_117_method_23_code 4 = .ok (.ifCond .ne 8, 3) := by decide +kernel
theorem d10_7 : decode jdk_117_method_23_code 7 = .ok (.dload_n 0, 1) := by decide +kernel
theorem d10_8 : decode jdk_117_method_23_code 8 = .ok (.invokestatic 134, 3) := by decide +kernel
theorem d10_11 : decode jdk_117_method_23_code 11 = .ok (.lreturn, 1) := by decide +kernel
theorem efm10 (m : MethodId) (d0 : UInt64) : entryFrame m #[(.double d0)] 2 = mkF m 0 #[.val (.double d0), .second] [] := by first | (simp [entryFrame, mkF, argsToLocals, Value.category]; done) | rfl
def Qm10 (Z : State) (d0 : UInt64) (h0 : Heap) (n0 : Nat) (v : Option Value) (h : Heap) (L : List Loc) : Prop := v = some (.long (d0.toInt64)) ∧ Fr n0 L ∧ (h = h0)
set_option maxRecDepth 65536 in
set_option maxHeartbeats 40000000 in
theorem rmm10 (l : Launch) (Z : State) (a0 : Array Value) (hw : ∀ d ∈ tables_1, d.before a0 Z = true) (ws : List Jvm.Cond) (d0 : UInt64) (h0 : Heap) (n0 : Nat) (Z0 : n0 ≤ h0.size) (hn : NoNaN64 d0) :
    MetFree l (⟨"java/lang/Double", "doubleToLongBits", "(D)J"⟩ : MethodName) (head1 (Jvm.Cond.code (⟨"java/lang/Double", "doubleToLongBits", "(D)J"⟩ : MethodName) jdk_117_method_23_code 2 (some .long) :: ws) ({ frames := 1, cells := 0, slots := 0, locals := 15 } : Room)) (fun a U => a = #[(.double d0)] ∧ Z.Warmed39 U.vm ∧ U.heap = h0) (fun _ _ _ _ _ => True) (fun _ U o U' => ∃ v L, o = .returned v ∧ Qm10 Z d0 h0 n0 v U'.heap L ∧ FrameEnd U o U' L ({ frames := 1, cells := 0, slots := 0, locals := 15 } : Room).cells ({ frames := 1, cells := 0, slots := 0, locals := 15 } : Room).slots) := by
  refine MetFree.of_bodySF (plainFor_of_name pn1) hisR ?_
  intro p e s m args below meth c s₁ Bd hml0 hP hK
  obtain ⟨rfl, hZ, hh⟩ := hP
  have hx := Bd.exec
  have hby := Bd.bytes
  have hml : c.maxLocals = 2 := hml0
  have hown : s.vm.findClass "java/lang/Double" = some m.cls := findClass_of_methodNamed Bd.named
  have hnm := (name_of_methodNamed Bd.named Bd.method).1
  have X0 : Stand p l e ({ frames := 1, cells := 0, slots := 0, locals := 15 } : Room) s m #[(.double d0)] below meth c s₁ [] 0 0 := Stand.of_body Bd
  have e0 : s₁.heap = h0 := by rw [← hh, Bd.state]; rfl
  have N0 := Fr.nil n0
  have pre0 : ∀ t, Steps p.tables e below (s₁.setTop (mkF m 0 #[.val (.double d0), .second] [])) t → Steps p.tables e below (s₁.setTop (entryFrame m #[(.double d0)] 2)) t := fun t k => castTop (efm10 m d0) k
  obtain ⟨_, _, ⟨T101, L101, k101, n101⟩, -, X101, ⟨Lc101, hQ101, l101, y101, z101⟩, st101⟩ := Jvm.LawKit.callS X0 hx (y := (⟨"java/lang/Double", "isNaN", "(D)Z"⟩ : MethodName)) hown (mvT hZ (own_w hw 45 rfl)) (mvT hZ (own_w hw 46 rfl)) (mvT hZ (own_w hw 15 rfl)) (mvT hZ (own_w hw 47 rfl)) (by decide) (backOf (W := 0) (rmm11 l Z a0 hw [] d0 h0 n0 Z0 hn) hZ (own_w hw 47 rfl) (own_w hw 15 rfl) (by decide) (by decide)) (g := (mkF m 1 #[.val (.double d0), .second] [(.double d0)])) rfl (by rw [hml]; rfl) (argsL := [(.double d0)]) (rest := []) (lenOf pd3 rfl) rfl (by show 2 * 0 + _ ≤ _; exact Nat.le_of_eq rfl) (hb hby d10_1) (fun _ _ => ⟨rfl, e0, (by decide : 0 + 0 ≤ _), (by decide : 0 + 0 ≤ _)⟩)
  dsimp only [Pt.U, Pt.locs, Pt.cells, Pt.slots] at X101 l101 y101 z101 st101 hQ101
  subst l101 y101 z101
  obtain ⟨rfl, Nq101, P101_0⟩ := hQ101
  have N101 := Fr.app N0 Nq101
  obtain ⟨vm102, X102, st102⟩ := X101.doubleToRawLongBits hx hown (mvT hZ (own_w hw 48 rfl)) (mvT hZ (own_w hw 50 rfl)) (mvT hZ (own_w hw 49 rfl)) (mvT hZ (own_w hw 15 rfl)) (g := (mkF m 8 #[.val (.double d0), .second] [(.double d0)])) rfl (by rw [hml]; rfl) (rest := []) rfl (hb hby d10_8) (by decide) (by show 2 * 0 + 0 + (nativeFrameWords "java/lang/Double" "doubleToRawLongBits" 2 + 11) ≤ _; decide +kernel)
  have e102 : (T101.setVm vm102).heap = h0 := P101_0
  obtain ⟨fs, hr, hrun, hended, hW, hsame⟩ := X102.leave (v := some (.long (d0.toInt64))) (fun h => by rw [Bd.returns] at h; cases h)
  refine ⟨_, _, pre0 _ ?_, hrun, hended, _, _, rfl, ?_, ⟨_, rfl⟩, hW, hsame.mono (by decide) (by decide)⟩
  · show own_S p e below s₁ m 0 #[oD d0, oV] [] _
    refine XS.dloadN X0.here hx rfl (hb hby d10_0) rfl ?_
    show own_S p e below s₁ m 1 #[oD d0, oV] [(.double d0)] _
    refine st101 _ ?_
    show own_S p e below T101 m 4 #[oD d0, oV] [(.int 0)] _
    refine XS.ifNo X101.here hx rfl (hb hby d10_4) rfl ((if0 _ _).trans (teq (by decide : (0 : Int32) = (0 : Int32))).2) ?_
    show own_S p e below T101 m 7 #[oD d0, oV] [] _
    refine XS.dloadN X101.here hx rfl (hb hby d10_7) rfl ?_
    show own_S p e below T101 m 8 #[oD d0, oV] [(.double d0)] _
    refine st102 _ ?_
    show own_S p e below (T101.setVm vm102) m 11 #[oD d0, oV] [(.long (d0.toInt64))] _
    exact retOut X102 hx Bd.returns rfl (Or.inr (Or.inl ⟨rfl, rfl, _, rfl⟩)) (hb hby d10_11) hr
  · show Qm10 Z d0 h0 n0 _ (T101.setVm vm102).heap _
    rw [e102]
    exact ⟨rfl, N101, rfl⟩
theorem pd4 : parseMethodDescriptor "(D)J" = some ⟨[.double], some .long⟩ := by decide +kernel
theorem d9_0 : decode jdk_117_method_27_code 0 = .ok (.dload_n 0, 1) := by decide +kernel
theorem d9_1 : decode jdk_117_method_27_code 1 = .ok (.dload_n 2, 1) := by decide +kernel
theorem d9_2 : decode jdk_117_method_27_code 2 = .ok (.dcmp .g, 1) := by decide +kernel
theorem d9_3 : decode jdk_117_method_27_code 3 = .ok (.ifCond .ge 5, 3) := by decide +kernel
theorem d9_6 : decode jdk_117_method_27_code 6 = .ok (.iconst (-1), 1) := by decide +kernel
theorem d9_7 : decode jdk_117_method_27_code 7 = .ok (.ireturn, 1) := by decide +kernel
theorem d9_8 : decode jdk_117_method_27_code 8 = .ok (.dload_n 0, 1) := by decide +kernel
theorem d9_9 : decode jdk_117_method_27_code 9 = .ok (.dload_n 2, 1) := by decide +kernel
theorem d9_10 : decode jdk_117_method_27_code 10 = .ok (.dcmp .l, 1) := by decide +kernel
theorem d9_11 : decode jdk_117_method_27_code 11 = .ok (.ifCond .le 5, 3) := by decide +kernel
theorem d9_14 : decode jdk_117_method_27_code 14 = .ok (.iconst 1, 1) := by decide +kernel
theorem d9_15 : decode jdk_117_method_27_code 15 = .ok (.ireturn, 1) := by decide +kernel
theorem d9_16 : decode jdk_117_method_27_code 16 = .ok (.dload_n 0, 1) := by decide +kernel
theorem d9_17 : decode jdk_117_method_27_code 17 = .ok (.invokestatic 46, 3) := by decide +kernel
theorem d9_20 : decode jdk_117_method_27_code 20 = .ok (.lstore 4, 2) := by decide +kernel
theorem d9_22 : decode jdk_117_method_27_code 22 = .ok (.dload_n 2, 1) := by decide +kernel
theorem d9_23 : decode jdk_117_method_27_code 23 = .ok (.invokestatic 46, 3) := by decide +kernel
theorem d9_26 : decode jdk_117_method_27_code 26 = .ok (.lstore 6, 2) := by decide +kernel
theorem d9_28 : decode jdk_117_method_27_code 28 = .ok (.lload 4, 2) := by decide +kernel
theorem d9_30 : decode jdk_117_method_27_code 30 = .ok (.lload 6, 2) := by decide +kernel
theorem d9_32 : decode jdk_117_method_27_code 32 = .ok (.lcmp, 1) := by decide +kernel
theorem d9_33 : decode jdk_117_method_27_code 33 = .ok (.ifCond .ne 7, 3) := by decide +kernel
theorem d9_36 : decode jdk_117_method_27_code 36 = .ok (.iconst 0, 1) := by decide +kernel
theorem d9_37 : decode jdk_117_method_27_code 37 = .ok (.goto 16, 3) := by decide +kernel
theorem d9_40 : decode jdk_117_method_27_code 40 = .ok (.lload 4, 2) := by decide +kernel
theorem d9_42 : decode jdk_117_method_27_code 42 = .ok (.lload 6, 2) := by decide +kernel
theorem d9_44 : decode jdk_117_method_27_code 44 = .ok (.lcmp, 1) := by decide +kernel
theorem d9_45 : decode jdk_117_method_27_code 45 = .ok (.ifCond .ge 7, 3) := by decide +kernel
theorem d9_48 : decode jdk_117_method_27_code 48 = .ok (.iconst (-1), 1) := by decide +kernel
theorem d9_49 : decode jdk_117_method_27_code 49 = .ok (.goto 4, 3) := by decide +kernel
theorem d9_52 : decode jdk_117_method_27_code 52 = .ok (.iconst 1, 1) := by decide +kernel
theorem d9_53 : decode jdk_117_method_27_code 53 = .ok (.ireturn, 1) := by decide +kernel
theorem efm9 (m : MethodId) (d0 : UInt64) (d1 : UInt64) : entryFrame m #[(.double d0), (.double d1)] 8 = mkF m 0 #[.val (.double d0), .second, .val (.double d1), .second, .unset, .unset, .unset, .unset] [] := by first | (simp [entryFrame, mkF, argsToLocals, Value.category]; done) | rfl
def Qm9 (Z : State) (d0 : UInt64) (d1 : UInt64) (h0 : Heap) (n0 : Nat) (v : Option Value) (h : Heap) (L : List Loc) : Prop := v = some (.int (own_cmpD d0 d1)) ∧ Fr n0 L ∧ (h = h0)
set_option maxRecDepth 65536 in
set_option maxHeartbeats 40000000 in
theorem rmm9 (l : Launch) (Z : State) (a0 : Array Value) (hw : ∀ d ∈ tables_1, d.before a0 Z = true) (ws : List Jvm.Cond) (d0 : UInt64) (d1 : UInt64) (h0 : Heap) (n0 : Nat) (Z0 : n0 ≤ h0.size) (hna : NoNaN64 d0) (hnb : NoNaN64 d1) :
    MetFree l (⟨"java/lang/Double", "compare", "(DD)I"⟩ : MethodName) (head1 (Jvm.Cond.code (⟨"java/lang/Double", "compare", "(DD)I"⟩ : MethodName) jdk_117_method_27_code 8 (some .int) :: ws) ({ frames := 2, cells := 0, slots := 0, locals := 28 } : Room)) (fun a U => a = #[(.double d0), (.double d1)] ∧ Z.Warmed39 U.vm ∧ U.heap = h0) (fun _ _ _ _ _ => True) (fun _ U o U' => ∃ v L, o = .returned v ∧ Qm9 Z d0 d1 h0 n0 v U'.heap L ∧ FrameEnd U o U' L ({ frames := 2, cells := 0, slots := 0, locals := 28 } : Room).cells ({ frames := 2, cells := 0, slots := 0, locals := 28 } : Room).slots) := by
  refine MetFree.of_bodySF (plainFor_of_name pn1) hisR ?_
  intro p e s m args below meth c s₁ Bd hml0 hP hK
  obtain ⟨rfl, hZ, hh⟩ := hP
  have hx := Bd.exec
  have hby := Bd.bytes
  have hml : c.maxLocals = 8 := hml0
  have hown : s.vm.findClass "java/lang/Double" = some m.cls := findClass_of_methodNamed Bd.named
  have hnm := (name_of_methodNamed Bd.named Bd.method).1
  have X0 : Stand p l e ({ frames := 2, cells := 0, slots := 0, locals := 28 } : Room) s m #[(.double d0), (.double d1)] below meth c s₁ [] 0 0 := Stand.of_body Bd
  have e0 : s₁.heap = h0 := by rw [← hh, Bd.state]; rfl
  have N0 := Fr.nil n0
  have pre0 : ∀ t, Steps p.tables e below (s₁.setTop (mkF m 0 #[.val (.double d0), .second, .val (.double d1), .second, .unset, .unset, .unset, .unset] [])) t → Steps p.tables e below (s₁.setTop (entryFrame m #[(.double d0), (.double d1)] 8)) t := fun t k => castTop (efm9 m d0 d1) k
  have pre101 : ∀ t, Steps p.tables e below (s₁.setTop (mkF m 3 #[.val (.double d0), .second, .val (.double d1), .second, .unset, .unset, .unset, .unset] [(.int (cmpValue (FP.dcmp d0 d1) .g))])) t → Steps p.tables e below (s₁.setTop (mkF m 0 #[.val (.double d0), .second, .val (.double d1), .second, .unset, .unset, .unset, .unset] [])) t := by
    intro t kt
    show own_S p e below s₁ m 0 #[oD d0, oV, oD d1, oV, oU, oU, oU, oU] [] _
    refine XS.dloadN X0.here hx rfl (hb hby d9_0) rfl ?_
    show own_S p e below s₁ m 1 #[oD d0, oV, oD d1, oV, oU, oU, oU, oU] [(.double d0)] _
    refine XS.dloadN X0.here hx rfl (hb hby d9_1) rfl ?_
    show own_S p e below s₁ m 2 #[oD d0, oV, oD d1, oV, oU, oU, oU, oU] [(.double d1), (.double d0)] _
    refine XS.dcmpS X0.here hx rfl (v := (cmpValue (FP.dcmp d0 d1) .g)) (hb hby d9_2) rfl rfl ?_
    exact kt
  by_cases ha : (cmpValue (FP.dcmp d0 d1) .g) < (0 : Int32)
  · skip
    obtain ⟨fs, hr, hrun, hended, hW, hsame⟩ := X0.leave (v := some (.int (-1))) (fun h => by rw [Bd.returns] at h; cases h)
    refine ⟨_, _, pre0 _ (pre101 _ ?_), hrun, hended, _, _, rfl, ?_, ⟨_, rfl⟩, hW, hsame.mono (by decide) (by decide)⟩
    · show own_S p e below s₁ m 3 #[oD d0, oV, oD d1, oV, oU, oU, oU, oU] [(.int (cmpValue (FP.dcmp d0 d1) .g))] _
      refine XS.ifNo X0.here hx rfl (hb hby d9_3) rfl ((if0 _ _).trans (tlt (ha : (cmpValue (FP.dcmp d0 d1) .g) < (0 : Int32))).2.1) ?_
      show own_S p e below s₁ m 6 #[oD d0, oV, oD d1, oV, oU, oU, oU, oU] [] _
      refine XS.iconst X0.here hx rfl (hb hby d9_6) ?_
      show own_S p e below s₁ m 7 #[oD d0, oV, oD d1, oV, oU, oU, oU, oU] [(.int (-1))] _
      exact retOut X0 hx Bd.returns rfl (Or.inl ⟨rfl, Or.inl rfl, _, rfl⟩) (hb hby d9_7) hr
    · show Qm9 Z d0 d1 h0 n0 _ s₁.heap _
      rw [e0]
      exact ⟨(by simp [own_cmpD, *]), N0, rfl⟩
  · skip
    have pre102 : ∀ t, Steps p.tables e below (s₁.setTop (mkF m 11 #[.val (.double d0), .second, .val (.double d1), .second, .unset, .unset, .unset, .unset] [(.int (cmpValue (FP.dcmp d0 d1) .l))])) t → Steps p.tables e below (s₁.setTop (mkF m 0 #[.val (.double d0), .second, .val (.double d1), .second, .unset, .unset, .unset, .unset] [])) t := by
      intro t kt
      refine pre101 _ ?_
      show own_S p e below s₁ m 3 #[oD d0, oV, oD d1, oV, oU, oU, oU, oU] [(.int (cmpValue (FP.dcmp d0 d1) .g))] _
      refine XS.ifYes X0.here hx rfl (pc0 := 3) (pc' := 8) rfl (hb hby d9_3) rfl ((if0 _ _).trans (flt (ha : ¬ ((cmpValue (FP.dcmp d0 d1) .g) < (0 : Int32)))).2.1) (by decide) (by decide) ?_
      show own_S p e below s₁ m 8 #[oD d0, oV, oD d1, oV, oU, oU, oU, oU] [] _
      refine XS.dloadN X0.here hx rfl (hb hby d9_8) rfl ?_
      show own_S p e below s₁ m 9 #[oD d0, oV, oD d1, oV, oU, oU, oU, oU] [(.double d0)] _
      refine XS.dloadN X0.here hx rfl (hb hby d9_9) rfl ?_
      show own_S p e below s₁ m 10 #[oD d0, oV, oD d1, oV, oU, oU, oU, oU] [(.double d1), (.double d0)] _
      refine XS.dcmpS X0.here hx rfl (v := (cmpValue (FP.dcmp d0 d1) .l)) (hb hby d9_10) rfl rfl ?_
      exact kt
    by_cases hb_ : (0 : Int32) < (cmpValue (FP.dcmp d0 d1) .l)
    · skip
      obtain ⟨fs, hr, hrun, hended, hW, hsame⟩ := X0.leave (v := some (.int 1)) (fun h => by rw [Bd.returns] at h; cases h)
      refine ⟨_, _, pre0 _ (pre102 _ ?_), hrun, hended, _, _, rfl, ?_, ⟨_, rfl⟩, hW, hsame.mono (by decide) (by decide)⟩
      · show own_S p e below s₁ m 11 #[oD d0, oV, oD d1, oV, oU, oU, oU, oU] [(.int (cmpValue (FP.dcmp d0 d1) .l))] _
        refine XS.ifNo X0.here hx rfl (hb hby d9_11) rfl ((if0 _ _).trans (tlt (hb_ : (0 : Int32) < (cmpValue (FP.dcmp d0 d1) .l))).2.2.2) ?_
        show own_S p e below s₁ m 14 #[oD d0, oV, oD d1, oV, oU, oU, oU, oU] [] _
        refine XS.iconst X0.here hx rfl (hb hby d9_14) ?_
        show own_S p e below s₁ m 15 #[oD d0, oV, oD d1, oV, oU, oU, oU, oU] [(.int 1)] _
        exact retOut X0 hx Bd.returns rfl (Or.inl ⟨rfl, Or.inl rfl, _, rfl⟩) (hb hby d9_15) hr
      · show Qm9 Z d0 d1 h0 n0 _ s₁.heap _
        rw [e0]
        exact ⟨(by simp [own_cmpD, *]), N0, rfl⟩
    · skip
      obtain ⟨_, _, ⟨T103, L103, k103, n103⟩, -, X103, ⟨Lc103, hQ103, l103, y103, z103⟩, st103⟩ := Jvm.LawKit.callS X0 hx (y := (⟨"java/lang/Double", "doubleToLongBits", "(D)J"⟩ : MethodName)) hown (mvT hZ (own_w hw 42 rfl)) (mvT hZ (own_w hw 43 rfl)) (mvT hZ (own_w hw 15 rfl)) (mvT hZ (own_w hw 44 rfl)) (by decide) (backOf (W := 0) (rmm10 l Z a0 hw [] d0 h0 n0 Z0 hna) hZ (own_w hw 44 rfl) (own_w hw 15 rfl) (by decide) (by decide)) (g := (mkF m 17 #[.val (.double d0), .second, .val (.double d1), .second, .unset, .unset, .unset, .unset] [(.double d0)])) rfl (by rw [hml]; rfl) (argsL := [(.double d0)]) (rest := []) (lenOf pd4 rfl) rfl (by show 2 * 0 + _ ≤ _; exact Nat.le_of_eq rfl) (hb hby d9_17) (fun _ _ => ⟨rfl, e0, (by decide : 0 + 0 ≤ _), (by decide : 0 + 0 ≤ _)⟩)
      dsimp only [Pt.U, Pt.locs, Pt.cells, Pt.slots] at X103 l103 y103 z103 st103 hQ103
      subst l103 y103 z103
      obtain ⟨rfl, Nq103, P103_0⟩ := hQ103
      have N103 := Fr.app N0 Nq103
      obtain ⟨_, _, ⟨T104, L104, k104, n104⟩, -, X104, ⟨Lc104, hQ104, l104, y104, z104⟩, st104⟩ := Jvm.LawKit.callS X103 hx (y := (⟨"java/lang/Double", "doubleToLongBits", "(D)J"⟩ : MethodName)) hown (mvT hZ (own_w hw 42 rfl)) (mvT hZ (own_w hw 43 rfl)) (mvT hZ (own_w hw 15 rfl)) (mvT hZ (own_w hw 44 rfl)) (by decide) (backOf (W := 0) (rmm10 l Z a0 hw [] d1 h0 n0 Z0 hnb) hZ (own_w hw 44 rfl) (own_w hw 15 rfl) (by decide) (by decide)) (g := (mkF m 23 #[.val (.double d0), .second, .val (.double d1), .second, .val (.long (d0.toInt64)), .second, .unset, .unset] [(.double d1)])) rfl (by rw [hml]; rfl) (argsL := [(.double d1)]) (rest := []) (lenOf pd4 rfl) rfl (by show 2 * 0 + _ ≤ _; exact Nat.le_of_eq rfl) (hb hby d9_23) (fun _ _ => ⟨rfl, P103_0, (by decide : 0 + 0 ≤ _), (by decide : 0 + 0 ≤ _)⟩)
      dsimp only [Pt.U, Pt.locs, Pt.cells, Pt.slots] at X104 l104 y104 z104 st104 hQ104
      subst l104 y104 z104
      obtain ⟨rfl, Nq104, P104_0⟩ := hQ104
      have N104 := Fr.app N103 Nq104
      have pre105 : ∀ t, Steps p.tables e below (T104.setTop (mkF m 33 #[.val (.double d0), .second, .val (.double d1), .second, .val (.long (d0.toInt64)), .second, .val (.long (d1.toInt64)), .second] [(.int (lcmpW (d0.toInt64) (d1.toInt64)))])) t → Steps p.tables e below (s₁.setTop (mkF m 0 #[.val (.double d0), .second, .val (.double d1), .second, .unset, .unset, .unset, .unset] [])) t := by
        intro t kt
        refine pre102 _ ?_
        show own_S p e below s₁ m 11 #[oD d0, oV, oD d1, oV, oU, oU, oU, oU] [(.int (cmpValue (FP.dcmp d0 d1) .l))] _
        refine XS.ifYes X0.here hx rfl (pc0 := 11) (pc' := 16) rfl (hb hby d9_11) rfl ((if0 _ _).trans (flt (hb_ : ¬ ((0 : Int32) < (cmpValue (FP.dcmp d0 d1) .l)))).2.2.2) (by decide) (by decide) ?_
        show own_S p e below s₁ m 16 #[oD d0, oV, oD d1, oV, oU, oU, oU, oU] [] _
        refine XS.dloadN X0.here hx rfl (hb hby d9_16) rfl ?_
        show own_S p e below s₁ m 17 #[oD d0, oV, oD d1, oV, oU, oU, oU, oU] [(.double d0)] _
        refine st103 _ ?_
        show own_S p e below T103 m 20 #[oD d0, oV, oD d1, oV, oU, oU, oU, oU] [(.long (d0.toInt64))] _
        refine XS.lstore X103.here hx rfl (hb hby d9_20) rfl (l' := #[.val (.double d0), .second, .val (.double d1), .second, .val (.long (d0.toInt64)), .second, .unset, .unset]) rfl ?_
        show own_S p e below T103 m 22 #[oD d0, oV, oD d1, oV, oJ (d0.toInt64), oV, oU, oU] [] _
        refine XS.dloadN X103.here hx rfl (hb hby d9_22) rfl ?_
        show own_S p e below T103 m 23 #[oD d0, oV, oD d1, oV, oJ (d0.toInt64), oV, oU, oU] [(.double d1)] _
        refine st104 _ ?_
        show own_S p e below T104 m 26 #[oD d0, oV, oD d1, oV, oJ (d0.toInt64), oV, oU, oU] [(.long (d1.toInt64))] _
        refine XS.lstore X104.here hx rfl (hb hby d9_26) rfl (l' := #[.val (.double d0), .second, .val (.double d1), .second, .val (.long (d0.toInt64)), .second, .val (.long (d1.toInt64)), .second]) rfl ?_
        show own_S p e below T104 m 28 #[oD d0, oV, oD d1, oV, oJ (d0.toInt64), oV, oJ (d1.toInt64), oV] [] _
        refine XS.lload X104.here hx rfl (hb hby d9_28) rfl ?_
        show own_S p e below T104 m 30 #[oD d0, oV, oD d1, oV, oJ (d0.toInt64), oV, oJ (d1.toInt64), oV] [(.long (d0.toInt64))] _
        refine XS.lload X104.here hx rfl (hb hby d9_30) rfl ?_
        show own_S p e below T104 m 32 #[oD d0, oV, oD d1, oV, oJ (d0.toInt64), oV, oJ (d1.toInt64), oV] [(.long (d1.toInt64)), (.long (d0.toInt64))] _
        refine XS.lcmp X104.here hx rfl (hb hby d9_32) rfl ?_
        exact kt
      by_cases hc : (lcmpW (d0.toInt64) (d1.toInt64)) = (0 : Int32)
      · skip
        obtain ⟨fs, hr, hrun, hended, hW, hsame⟩ := X104.leave (v := some (.int 0)) (fun h => by rw [Bd.returns] at h; cases h)
        refine ⟨_, _, pre0 _ (pre105 _ ?_), hrun, hended, _, _, rfl, ?_, ⟨_, rfl⟩, hW, hsame.mono (by decide) (by decide)⟩
        · show own_S p e below T104 m 33 #[oD d0, oV, oD d1, oV, oJ (d0.toInt64), oV, oJ (d1.toInt64), oV] [(.int (lcmpW (d0.toInt64) (d1.toInt64)))] _
          refine XS.ifNo X104.here hx rfl (hb hby d9_33) rfl ((if0 _ _).trans (teq (hc : (lcmpW (d0.toInt64) (d1.toInt64)) = (0 : Int32))).2) ?_
          show own_S p e below T104 m 36 #[oD d0, oV, oD d1, oV, oJ (d0.toInt64), oV, oJ (d1.toInt64), oV] [] _
          refine XS.iconst X104.here hx rfl (hb hby d9_36) ?_
          show own_S p e below T104 m 37 #[oD d0, oV, oD d1, oV, oJ (d0.toInt64), oV, oJ (d1.toInt64), oV] [(.int 0)] _
          refine XS.goto X104.here hx rfl (pc0 := 37) (pc' := 53) rfl (hb hby d9_37) (by decide) (by decide) ?_
          show own_S p e below T104 m 53 #[oD d0, oV, oD d1, oV, oJ (d0.toInt64), oV, oJ (d1.toInt64), oV] [(.int 0)] _
          exact retOut X104 hx Bd.returns rfl (Or.inl ⟨rfl, Or.inl rfl, _, rfl⟩) (hb hby d9_53) hr
        · show Qm9 Z d0 d1 h0 n0 _ T104.heap _
          rw [P104_0]
          exact ⟨(by simp [own_cmpD, *]), N104, rfl⟩
      · skip
        have pre106 : ∀ t, Steps p.tables e below (T104.setTop (mkF m 45 #[.val (.double d0), .second, .val (.double d1), .second, .val (.long (d0.toInt64)), .second, .val (.long (d1.toInt64)), .second] [(.int (lcmpW (d0.toInt64) (d1.toInt64)))])) t → Steps p.tables e below (s₁.setTop (mkF m 0 #[.val (.double d0), .second, .val (.double d1), .second, .unset, .unset, .unset, .unset] [])) t := by
          intro t kt
          refine pre105 _ ?_
          show own_S p e below T104 m 33 #[oD d0, oV, oD d1, oV, oJ (d0.toInt64), oV, oJ (d1.toInt64), oV] [(.int (lcmpW (d0.toInt64) (d1.toInt64)))] _
          refine XS.ifYes X104.here hx rfl (pc0 := 33) (pc' := 40) rfl (hb hby d9_33) rfl ((if0 _ _).trans (feq (hc : ¬ ((lcmpW (d0.toInt64) (d1.toInt64)) = (0 : Int32)))).2) (by decide) (by decide) ?_
          show own_S p e below T104 m 40 #[oD d0, oV, oD d1, oV, oJ (d0.toInt64), oV, oJ (d1.toInt64), oV] [] _
          refine XS.lload X104.here hx rfl (hb hby d9_40) rfl ?_
          show own_S p e below T104 m 42 #[oD d0, oV, oD d1, oV, oJ (d0.toInt64), oV, oJ (d1.toInt64), oV] [(.long (d0.toInt64))] _
          refine XS.lload X104.here hx rfl (hb hby d9_42) rfl ?_
          show own_S p e below T104 m 44 #[oD d0, oV, oD d1, oV, oJ (d0.toInt64), oV, oJ (d1.toInt64), oV] [(.long (d1.toInt64)), (.long (d0.toInt64))] _
          refine XS.lcmp X104.here hx rfl (hb hby d9_44) rfl ?_
          exact kt
        by_cases hd : (lcmpW (d0.toInt64) (d1.toInt64)) < (0 : Int32)
        · skip
          obtain ⟨fs, hr, hrun, hended, hW, hsame⟩ := X104.leave (v := some (.int (-1))) (fun h => by rw [Bd.returns] at h; cases h)
          refine ⟨_, _, pre0 _ (pre106 _ ?_), hrun, hended, _, _, rfl, ?_, ⟨_, rfl⟩, hW, hsame.mono (by decide) (by decide)⟩
          · show own_S p e below T104 m 45 #[oD d0, oV, oD d1, oV, oJ (d0.toInt64), oV, oJ (d1.toInt64), oV] [(.int (lcmpW (d0.toInt64) (d1.toInt64)))] _
            refine XS.ifNo X104.here hx rfl (hb hby d9_45) rfl ((if0 _ _).trans (tlt (hd : (lcmpW (d0.toInt64) (d1.toInt64)) < (0 : Int32))).2.1) ?_
            show own_S p e below T104 m 48 #[oD d0, oV, oD d1, oV, oJ (d0.toInt64), oV, oJ (d1.toInt64), oV] [] _
            refine XS.iconst X104.here hx rfl (hb hby d9_48) ?_
            show own_S p e below T104 m 49 #[oD d0, oV, oD d1, oV, oJ (d0.toInt64), oV, oJ (d1.toInt64), oV] [(.int (-1))] _
            refine XS.goto X104.here hx rfl (pc0 := 49) (pc' := 53) rfl (hb hby d9_49) (by decide) (by decide) ?_
            show own_S p e below T104 m 53 #[oD d0, oV, oD d1, oV, oJ (d0.toInt64), oV, oJ (d1.toInt64), oV] [(.int (-1))] _
            exact retOut X104 hx Bd.returns rfl (Or.inl ⟨rfl, Or.inl rfl, _, rfl⟩) (hb hby d9_53) hr
          · show Qm9 Z d0 d1 h0 n0 _ T104.heap _
            rw [P104_0]
            exact ⟨(by simp [own_cmpD, *]), N104, rfl⟩
        · skip
          obtain ⟨fs, hr, hrun, hended, hW, hsame⟩ := X104.leave (v := some (.int 1)) (fun h => by rw [Bd.returns] at h; cases h)
          refine ⟨_, _, pre0 _ (pre106 _ ?_), hrun, hended, _, _, rfl, ?_, ⟨_, rfl⟩, hW, hsame.mono (by decide) (by decide)⟩
          · show own_S p e below T104 m 45 #[oD d0, oV, oD d1, oV, oJ (d0.toInt64), oV, oJ (d1.toInt64), oV] [(.int (lcmpW (d0.toInt64) (d1.toInt64)))] _
            refine XS.ifYes X104.here hx rfl (pc0 := 45) (pc' := 52) rfl (hb hby d9_45) rfl ((if0 _ _).trans (flt (hd : ¬ ((lcmpW (d0.toInt64) (d1.toInt64)) < (0 : Int32)))).2.1) (by decide) (by decide) ?_
            show own_S p e below T104 m 52 #[oD d0, oV, oD d1, oV, oJ (d0.toInt64), oV, oJ (d1.toInt64), oV] [] _
            refine XS.iconst X104.here hx rfl (hb hby d9_52) ?_
            show own_S p e below T104 m 53 #[oD d0, oV, oD d1, oV, oJ (d0.toInt64), oV, oJ (d1.toInt64), oV] [(.int 1)] _
            exact retOut X104 hx Bd.returns rfl (Or.inl ⟨rfl, Or.inl rfl, _, rfl⟩) (hb hby d9_53) hr
          · show Qm9 Z d0 d1 h0 n0 _ T104.heap _
            rw [P104_0]
            exact ⟨(by simp [own_cmpD, *]), N104, rfl⟩
theorem pd5 : parseMethodDescriptor "(DD)I" = some ⟨[.double, .double], some .int⟩ := by decide +kernel
theorem d8_0 : decode prog_17_method_5_code 0 = .ok (.aload_n 1, 1) := by decide +kernel
theorem d8_1 : decode prog_17_method_5_code 1 = .ok (.instanceof 23, 3) := by decide +kernel
theorem d8_4 : decode prog_17_method_5_code 4 = .ok (.ifCond .eq 41, 3) := by decide +kernel
theorem d8_7 : decode prog_17_method_5_code 7 = .ok (.aload_n 0, 1) := by decide +kernel
theorem d8_8 : decode prog_17_method_5_code 8 = .ok (.getfield 22, 3) := by decide +kernel
theorem d8_11 : decode prog_17_method_5_code 11 = .ok (.aload_n 1, 1) := by decide +kernel
theorem d8_12 : decode prog_17_method_5_code 12 = .ok (.checkcast 23, 3) := by decide +kernel
theorem d8_15 : decode prog_17_method_5_code 15 = .ok (.getfield 22, 3) := by decide +kernel
theorem d8_18 : decode prog_17_method_5_code 18 = .ok (.invokestatic 40, 3) := by decide +kernel
theorem d8_21 : decode prog_17_method_5_code 21 = .ok (.ifCond .ne 24, 3) := by decide +kernel
theorem d8_24 : decode prog_17_method_5_code 24 = .ok (.aload_n 0, 1) := by decide +kernel
theorem d8_25 : decode prog_17_method_5_code 25 = .ok (.getfield 28, 3) := by decide +kernel
theorem d8_28 : decode prog_17_method_5_code 28 = .ok (.aload_n 1, 1) := by decide +kernel
theorem d8_29 : decode prog_17_method_5_code 29 = .ok (.checkcast 23, 3) := by decide +kernel
theorem d8_32 : decode prog_17_method_5_code 32 = .ok (.getfield 28, 3) := by decide +kernel
theorem d8_35 : decode prog_17_method_5_code 35 = .ok (.invokestatic 40, 3) := by decide +kernel
theorem d8_38 : decode prog_17_method_5_code 38 = .ok (.ifCond .ne 7, 3) := by decide +kernel
theorem d8_41 : decode prog_17_method_5_code 41 = .ok (.iconst 1, 1) := by decide +kernel
theorem d8_42 : decode prog_17_method_5_code 42 = .ok (.goto 4, 3) := by decide +kernel
theorem d8_45 : decode prog_17_method_5_code 45 = .ok (.iconst 0, 1) := by decide +kernel
theorem d8_46 : decode prog_17_method_5_code 46 = .ok (.ireturn, 1) := by decide +kernel
theorem efm8 (m : MethodId) (r0 : Addr) (r1 : Addr) : entryFrame m #[(.ref r0), (.ref r1)] 2 = mkF m 0 #[.val (.ref r0), .val (.ref r1)] [] := by first | (simp [entryFrame, mkF, argsToLocals, Value.category]; done) | rfl
def Qm8 (Z : State) (r0 : Addr) (r1 : Addr) (w0 : UInt64) (w1 : UInt64) (w2 : UInt64) (w3 : UInt64) (h0 : Heap) (n0 : Nat) (v : Option Value) (h : Heap) (L : List Loc) : Prop := v = some (.int (own_eq w0 w1 w2 w3)) ∧ Fr n0 L ∧ (h = h0)
set_option maxRecDepth 65536 in
set_option maxHeartbeats 40000000 in
theorem rmm8 (l : Launch) (Z : State) (a0 : Array Value) (hw : ∀ d ∈ tables_1, d.before a0 Z = true) (ws : List Jvm.Cond) (r0 : Addr) (r1 : Addr) (w0 : UInt64) (w1 : UInt64) (w2 : UInt64) (w3 : UInt64) (h0 : Heap) (n0 : Nat) (Z0 : n0 ≤ h0.size) (F_x_r0 : Fld Z h0 r0 "com/example/minisum/minisum/Point" "x" "D" (.double w0)) (F_y_r0 : Fld Z h0 r0 "com/example/minisum/minisum/Point" "y" "D" (.double w1)) (F_x_r1 : Fld Z h0 r1 "com/example/minisum/minisum/Point" "x" "D" (.double w2)) (F_y_r1 : Fld Z h0 r1 "com/example/minisum/minisum/Point" "y" "D" (.double w3)) (E_r1 : Exa Z h0 r1 "com/example/minisum/minisum/Point") (hna : NoNaN64 w0) (hnb : NoNaN64 w1) (hnc : NoNaN64 w2) (hnd : NoNaN64 w3) :
    MetFree l (⟨"com/example/minisum/minisum/Point", "equals", "(Ljava/lang/Object;)Z"⟩ : MethodName) (head1 (Jvm.Cond.code (⟨"com/example/minisum/minisum/Point", "equals", "(Ljava/lang/Object;)Z"⟩ : MethodName) prog_17_method_5_code 2 (some .boolean) :: ws) ({ frames := 3, cells := 0, slots := 0, locals := 47 } : Room)) (fun a U => a = #[(.ref r0), (.ref r1)] ∧ Z.Warmed39 U.vm ∧ U.heap = h0) (fun _ _ _ _ _ => True) (fun _ U o U' => ∃ v L, o = .returned v ∧ Qm8 Z r0 r1 w0 w1 w2 w3 h0 n0 v U'.heap L ∧ FrameEnd U o U' L ({ frames := 3, cells := 0, slots := 0, locals := 47 } : Room).cells ({ frames := 3, cells := 0, slots := 0, locals := 47 } : Room).slots) := by
  refine MetFree.of_bodySF (plainFor_of_name pn2) hisR ?_
  intro p e s m args below meth c s₁ Bd hml0 hP hK
  obtain ⟨rfl, hZ, hh⟩ := hP
  have hx := Bd.exec
  have hby := Bd.bytes
  have hml : c.maxLocals = 2 := hml0
  have hown : s.vm.findClass "com/example/minisum/minisum/Point" = some m.cls := findClass_of_methodNamed Bd.named
  have hnm := (name_of_methodNamed Bd.named Bd.method).1
  have X0 : Stand p l e ({ frames := 3, cells := 0, slots := 0, locals := 47 } : Room) s m #[(.ref r0), (.ref r1)] below meth c s₁ [] 0 0 := Stand.of_body Bd
  have e0 : s₁.heap = h0 := by rw [← hh, Bd.state]; rfl
  have N0 := Fr.nil n0
  have pre0 : ∀ t, Steps p.tables e below (s₁.setTop (mkF m 0 #[.val (.ref r0), .val (.ref r1)] [])) t → Steps p.tables e below (s₁.setTop (entryFrame m #[(.ref r0), (.ref r1)] 2)) t := fun t k => castTop (efm8 m r0 r1) k
  obtain ⟨T101, X101, e101, st101⟩ := instY X0 hx hZ hown (own_w hw 37 rfl) e0 (Ins.self E_r1) (g := (mkF m 1 #[.val (.ref r0), .val (.ref r1)] [(.ref r1)])) rfl rfl (hb hby d8_1)
  obtain ⟨T102, X102, e102, st102⟩ := getF X101 hx hZ hown (host := "") (Or.inl (own_w hw 22 rfl)) Via.refl e101 F_x_r0 (g := (mkF m 8 #[.val (.ref r0), .val (.ref r1)] [(.ref r0)])) rfl rfl (hb hby d8_8)
  obtain ⟨T103, X103, e103, st103⟩ := castY X102 hx hZ hown (own_w hw 37 rfl) e102 (Ins.self E_r1) (g := (mkF m 12 #[.val (.ref r0), .val (.ref r1)] [(.ref r1), (.double w0)])) rfl rfl (hb hby d8_12)
  obtain ⟨T104, X104, e104, st104⟩ := getF X103 hx hZ hown (host := "") (Or.inl (own_w hw 22 rfl)) Via.refl e103 F_x_r1 (g := (mkF m 15 #[.val (.ref r0), .val (.ref r1)] [(.ref r1), (.double w0)])) rfl rfl (hb hby d8_15)
  obtain ⟨_, _, ⟨T105, L105, k105, n105⟩, -, X105, ⟨Lc105, hQ105, l105, y105, z105⟩, st105⟩ := Jvm.LawKit.callS X104 hx (y := (⟨"java/lang/Double", "compare", "(DD)I"⟩ : MethodName)) hown (mvT hZ (own_w hw 39 rfl)) (mvT hZ (own_w hw 40 rfl)) (mvT hZ (own_w hw 15 rfl)) (mvT hZ (own_w hw 41 rfl)) (by decide) (backOf (W := 0) (rmm9 l Z a0 hw [] w0 w2 h0 n0 Z0 hna hnc) hZ (own_w hw 41 rfl) (own_w hw 15 rfl) (by decide) (by decide)) (g := (mkF m 18 #[.val (.ref r0), .val (.ref r1)] [(.double w2), (.double w0)])) rfl (by rw [hml]; rfl) (argsL := [(.double w0), (.double w2)]) (rest := []) (lenOf pd5 rfl) rfl (by show 2 * 0 + _ ≤ _; exact Nat.le_of_eq rfl) (hb hby d8_18) (fun _ _ => ⟨rfl, e104, (by decide : 0 + 0 ≤ _), (by decide : 0 + 0 ≤ _)⟩)
  dsimp only [Pt.U, Pt.locs, Pt.cells, Pt.slots] at X105 l105 y105 z105 st105 hQ105
  subst l105 y105 z105
  obtain ⟨rfl, Nq105, P105_0⟩ := hQ105
  have N105 := Fr.app N0 Nq105
  have pre106 : ∀ t, Steps p.tables e below (T105.setTop (mkF m 21 #[.val (.ref r0), .val (.ref r1)] [(.int (own_cmpD w0 w2))])) t → Steps p.tables e below (s₁.setTop (mkF m 0 #[.val (.ref r0), .val (.ref r1)] [])) t := by
    intro t kt
    show own_S p e below s₁ m 0 #[oR r0, oR r1] [] _
    refine XS.aloadN X0.here hx rfl (hb hby d8_0) rfl rfl ?_
    show own_S p e below s₁ m 1 #[oR r0, oR r1] [(.ref r1)] _
    refine st101 _ ?_
    show own_S p e below T101 m 4 #[oR r0, oR r1] [(.int 1)] _
    refine XS.ifNo X101.here hx rfl (hb hby d8_4) rfl ((if0 _ _).trans (feq (by decide : ¬ ((1 : Int32) = (0 : Int32)))).1) ?_
    show own_S p e below T101 m 7 #[oR r0, oR r1] [] _
    refine XS.aloadN X101.here hx rfl (hb hby d8_7) rfl rfl ?_
    show own_S p e below T101 m 8 #[oR r0, oR r1] [(.ref r0)] _
    refine st102 _ ?_
    show own_S p e below T102 m 11 #[oR r0, oR r1] [(.double w0)] _
    refine XS.aloadN X102.here hx rfl (hb hby d8_11) rfl rfl ?_
    show own_S p e below T102 m 12 #[oR r0, oR r1] [(.ref r1), (.double w0)] _
    refine st103 _ ?_
    show own_S p e below T103 m 15 #[oR r0, oR r1] [(.ref r1), (.double w0)] _
    refine st104 _ ?_
    show own_S p e below T104 m 18 #[oR r0, oR r1] [(.double w2), (.double w0)] _
    refine st105 _ ?_
    exact kt
  by_cases hx1 : (own_cmpD w0 w2) = (0 : Int32)
  · skip
    obtain ⟨T107, X107, e107, st107⟩ := getF X105 hx hZ hown (host := "") (Or.inl (own_w hw 24 rfl)) Via.refl P105_0 F_y_r0 (g := (mkF m 25 #[.val (.ref r0), .val (.ref r1)] [(.ref r0)])) rfl rfl (hb hby d8_25)
    obtain ⟨T108, X108, e108, st108⟩ := castY X107 hx hZ hown (own_w hw 37 rfl) e107 (Ins.self E_r1) (g := (mkF m 29 #[.val (.ref r0), .val (.ref r1)] [(.ref r1), (.double w1)])) rfl rfl (hb hby d8_29)
    obtain ⟨T109, X109, e109, st109⟩ := getF X108 hx hZ hown (host := "") (Or.inl (own_w hw 24 rfl)) Via.refl e108 F_y_r1 (g := (mkF m 32 #[.val (.ref r0), .val (.ref r1)] [(.ref r1), (.double w1)])) rfl rfl (hb hby d8_32)
    obtain ⟨_, _, ⟨T110, L110, k110, n110⟩, -, X110, ⟨Lc110, hQ110, l110, y110, z110⟩, st110⟩ := Jvm.LawKit.callS X109 hx (y := (⟨"java/lang/Double", "compare", "(DD)I"⟩ : MethodName)) hown (mvT hZ (own_w hw 39 rfl)) (mvT hZ (own_w hw 40 rfl)) (mvT hZ (own_w hw 15 rfl)) (mvT hZ (own_w hw 41 rfl)) (by decide) (backOf (W := 0) (rmm9 l Z a0 hw [] w1 w3 h0 n0 Z0 hnb hnd) hZ (own_w hw 41 rfl) (own_w hw 15 rfl) (by decide) (by decide)) (g := (mkF m 35 #[.val (.ref r0), .val (.ref r1)] [(.double w3), (.double w1)])) rfl (by rw [hml]; rfl) (argsL := [(.double w1), (.double w3)]) (rest := []) (lenOf pd5 rfl) rfl (by show 2 * 0 + _ ≤ _; exact Nat.le_of_eq rfl) (hb hby d8_35) (fun _ _ => ⟨rfl, e109, (by decide : 0 + 0 ≤ _), (by decide : 0 + 0 ≤ _)⟩)
    dsimp only [Pt.U, Pt.locs, Pt.cells, Pt.slots] at X110 l110 y110 z110 st110 hQ110
    subst l110 y110 z110
    obtain ⟨rfl, Nq110, P110_0⟩ := hQ110
    have N110 := Fr.app N105 Nq110
    have pre111 : ∀ t, Steps p.tables e below (T110.setTop (mkF m 38 #[.val (.ref r0), .val (.ref r1)] [(.int (own_cmpD w1 w3))])) t → Steps p.tables e below (s₁.setTop (mkF m 0 #[.val (.ref r0), .val (.ref r1)] [])) t := by
      intro t kt
      refine pre106 _ ?_
      show own_S p e below T105 m 21 #[oR r0, oR r1] [(.int (own_cmpD w0 w2))] _
      refine XS.ifNo X105.here hx rfl (hb hby d8_21) rfl ((if0 _ _).trans (teq (hx1 : (own_cmpD w0 w2) = (0 : Int32))).2) ?_
      show own_S p e below T105 m 24 #[oR r0, oR r1] [] _
      refine XS.aloadN X105.here hx rfl (hb hby d8_24) rfl rfl ?_
      show own_S p e below T105 m 25 #[oR r0, oR r1] [(.ref r0)] _
      refine st107 _ ?_
      show own_S p e below T107 m 28 #[oR r0, oR r1] [(.double w1)] _
      refine XS.aloadN X107.here hx rfl (hb hby d8_28) rfl rfl ?_
      show own_S p e below T107 m 29 #[oR r0, oR r1] [(.ref r1), (.double w1)] _
      refine st108 _ ?_
      show own_S p e below T108 m 32 #[oR r0, oR r1] [(.ref r1), (.double w1)] _
      refine st109 _ ?_
      show own_S p e below T109 m 35 #[oR r0, oR r1] [(.double w3), (.double w1)] _
      refine st110 _ ?_
      exact kt
    by_cases hy1 : (own_cmpD w1 w3) = (0 : Int32)
    · skip
      obtain ⟨fs, hr, hrun, hended, hW, hsame⟩ := X110.leave (v := some (.int 1)) (fun h => by rw [Bd.returns] at h; cases h)
      refine ⟨_, _, pre0 _ (pre111 _ ?_), hrun, hended, _, _, rfl, ?_, ⟨_, rfl⟩, hW, hsame.mono (by decide) (by decide)⟩
      · show own_S p e below T110 m 38 #[oR r0, oR r1] [(.int (own_cmpD w1 w3))] _
        refine XS.ifNo X110.here hx rfl (hb hby d8_38) rfl ((if0 _ _).trans (teq (hy1 : (own_cmpD w1 w3) = (0 : Int32))).2) ?_
        show own_S p e below T110 m 41 #[oR r0, oR r1] [] _
        refine XS.iconst X110.here hx rfl (hb hby d8_41) ?_
        show own_S p e below T110 m 42 #[oR r0, oR r1] [(.int 1)] _
        refine XS.goto X110.here hx rfl (pc0 := 42) (pc' := 46) rfl (hb hby d8_42) (by decide) (by decide) ?_
        show own_S p e below T110 m 46 #[oR r0, oR r1] [(.int 1)] _
        exact retN X110 hx (t := .boolean) Bd.returns (by simp) (hb hby d8_46) hr
      · show Qm8 Z r0 r1 w0 w1 w2 w3 h0 n0 _ T110.heap _
        rw [P110_0]
        exact ⟨(by simp [own_eq, *]), N110, rfl⟩
    · skip
      obtain ⟨fs, hr, hrun, hended, hW, hsame⟩ := X110.leave (v := some (.int 0)) (fun h => by rw [Bd.returns] at h; cases h)
      refine ⟨_, _, pre0 _ (pre111 _ ?_), hrun, hended, _, _, rfl, ?_, ⟨_, rfl⟩, hW, hsame.mono (by decide) (by decide)⟩
      · show own_S p e below T110 m 38 #[oR r0, oR r1] [(.int (own_cmpD w1 w3))] _
        refine XS.ifYes X110.here hx rfl (pc0 := 38) (pc' := 45) rfl (hb hby d8_38) rfl ((if0 _ _).trans (feq (hy1 : ¬ ((own_cmpD w1 w3) = (0 : Int32)))).2) (by decide) (by decide) ?_
        show own_S p e below T110 m 45 #[oR r0, oR r1] [] _
        refine XS.iconst X110.here hx rfl (hb hby d8_45) ?_
        show own_S p e below T110 m 46 #[oR r0, oR r1] [(.int 0)] _
        exact retN X110 hx (t := .boolean) Bd.returns (by simp) (hb hby d8_46) hr
      · show Qm8 Z r0 r1 w0 w1 w2 w3 h0 n0 _ T110.heap _
        rw [P110_0]
        exact ⟨(by simp [own_eq, *]), N110, rfl⟩
  · skip
    obtain ⟨fs, hr, hrun, hended, hW, hsame⟩ := X105.leave (v := some (.int 0)) (fun h => by rw [Bd.returns] at h; cases h)
    refine ⟨_, _, pre0 _ (pre106 _ ?_), hrun, hended, _, _, rfl, ?_, ⟨_, rfl⟩, hW, hsame.mono (by decide) (by decide)⟩
    · show own_S p e below T105 m 21 #[oR r0, oR r1] [(.int (own_cmpD w0 w2))] _
      refine XS.ifYes X105.here hx rfl (pc0 := 21) (pc' := 45) rfl (hb hby d8_21) rfl ((if0 _ _).trans (feq (hx1 : ¬ ((own_cmpD w0 w2) = (0 : Int32)))).2) (by decide) (by decide) ?_
      show own_S p e below T105 m 45 #[oR r0, oR r1] [] _
      refine XS.iconst X105.here hx rfl (hb hby d8_45) ?_
      show own_S p e below T105 m 46 #[oR r0, oR r1] [(.int 0)] _
      exact retN X105 hx (t := .boolean) Bd.returns (by simp) (hb hby d8_46) hr
    · show Qm8 Z r0 r1 w0 w1 w2 w3 h0 n0 _ T105.heap _
      rw [P105_0]
      exact ⟨(by simp [own_eq, *]), N105, rfl⟩
theorem ef8n (m : MethodId) (r0 : Addr) : entryFrame m #[(.ref r0), .null] 2 = mkF m 0 #[.val (.ref r0), .val .null] [] := by first | (simp [entryFrame, mkF, argsToLocals, Value.category]; done) | rfl
def Q8n (Z : State) (r0 : Addr) (h0 : Heap) (n0 : Nat) (v : Option Value) (h : Heap) (L : List Loc) : Prop := v = some (.int 0) ∧ Fr n0 L ∧ (h = h0)
set_option maxRecDepth 65536 in
set_option maxHeartbeats 40000000 in
theorem rm8n (l : Launch) (Z : State) (a0 : Array Value) (hw : ∀ d ∈ tables_1, d.before a0 Z = true) (ws : List Jvm.Cond) (r0 : Addr) (h0 : Heap) (n0 : Nat) (Z0 : n0 ≤ h0.size)  :
    MetFree l (⟨"com/example/minisum/minisum/Point", "equals", "(Ljava/lang/Object;)Z"⟩ : MethodName) (head1 (Jvm.Cond.code (⟨"com/example/minisum/minisum/Point", "equals", "(Ljava/lang/Object;)Z"⟩ : MethodName) prog_17_method_5_code 2 (some .boolean) :: ws) ({ frames := 0, cells := 0, slots := 0, locals := 0 } : Room)) (fun a U => a = #[(.ref r0), .null] ∧ Z.Warmed39 U.vm ∧ U.heap = h0) (fun _ _ _ _ _ => True) (fun _ U o U' => ∃ v L, o = .returned v ∧ Q8n Z r0 h0 n0 v U'.heap L ∧ FrameEnd U o U' L ({ frames := 0, cells := 0, slots := 0, locals := 0 } : Room).cells ({ frames := 0, cells := 0, slots := 0, locals := 0 } : Room).slots) := by
  refine MetFree.of_bodySF (plainFor_of_name pn2) hisR ?_
  intro p e s m args below meth c s₁ Bd hml0 hP hK
  obtain ⟨rfl, hZ, hh⟩ := hP
  have hx := Bd.exec
  have hby := Bd.bytes
  have hml : c.maxLocals = 2 := hml0
  have hown : s.vm.findClass "com/example/minisum/minisum/Point" = some m.cls := findClass_of_methodNamed Bd.named
  have hnm := (name_of_methodNamed Bd.named Bd.method).1
  have X0 : Stand p l e ({ frames := 0, cells := 0, slots := 0, locals := 0 } : Room) s m #[(.ref r0), .null] below meth c s₁ [] 0 0 := Stand.of_body Bd
  have e0 : s₁.heap = h0 := by rw [← hh, Bd.state]; rfl
  have N0 := Fr.nil n0
  have pre0 : ∀ t, Steps p.tables e below (s₁.setTop (mkF m 0 #[.val (.ref r0), .val .null] [])) t → Steps p.tables e below (s₁.setTop (entryFrame m #[(.ref r0), .null] 2)) t := fun t k => castTop (ef8n m r0) k
  obtain ⟨fs, hr, hrun, hended, hW, hsame⟩ := X0.leave (v := some (.int 0)) (fun h => by rw [Bd.returns] at h; cases h)
  refine ⟨_, _, pre0 _ ?_, hrun, hended, _, _, rfl, ?_, ⟨_, rfl⟩, hW, hsame.mono (by decide) (by decide)⟩
  · show own_S p e below s₁ m 0 #[oR r0, .val .null] [] _
    refine XS.aloadN X0.here hx rfl (hb hby d8_0) rfl rfl ?_
    show own_S p e below s₁ m 1 #[oR r0, .val .null] [.null] _
    refine X0.instanceofNull hx (g := (mkF m 1 #[.val (.ref r0), .val .null] [.null])) rfl rfl (hb hby d8_1) _ ?_
    show own_S p e below s₁ m 4 #[oR r0, .val .null] [(.int 0)] _
    refine XS.ifYes X0.here hx rfl (pc0 := 4) (pc' := 45) rfl (hb hby d8_4) rfl ((if0 _ _).trans (teq (by decide : (0 : Int32) = (0 : Int32))).1) (by decide) (by decide) ?_
    show own_S p e below s₁ m 45 #[oR r0, .val .null] [] _
    refine XS.iconst X0.here hx rfl (hb hby d8_45) ?_
    show own_S p e below s₁ m 46 #[oR r0, .val .null] [(.int 0)] _
    exact retN X0 hx (t := .boolean) Bd.returns (by simp) (hb hby d8_46) hr
  · show Q8n Z r0 h0 n0 _ s₁.heap _
    rw [e0]
    exact ⟨rfl, N0, rfl⟩
theorem ef8i (m : MethodId) (r0 : Addr) (r1 : Addr) : entryFrame m #[(.ref r0), (.ref r1)] 2 = mkF m 0 #[.val (.ref r0), .val (.ref r1)] [] := by first | (simp [entryFrame, mkF, argsToLocals, Value.category]; done) | rfl
def Q8i (Z : State) (r0 : Addr) (r1 : Addr) (h0 : Heap) (n0 : Nat) (v : Option Value) (h : Heap) (L : List Loc) : Prop := v = some (.int 0) ∧ Fr n0 L ∧ (h = h0)
set_option maxRecDepth 65536 in
set_option maxHeartbeats 40000000 in
theorem rm8i (l : Launch) (Z : State) (a0 : Array Value) (hw : ∀ d ∈ tables_1, d.before a0 Z = true) (ws : List Jvm.Cond) (r0 : Addr) (r1 : Addr) (h0 : Heap) (n0 : Nat) (Z0 : n0 ≤ h0.size) (E_r1 : Exa Z h0 r1 "java/lang/Integer") :
    MetFree l (⟨"com/example/minisum/minisum/Point", "equals", "(Ljava/lang/Object;)Z"⟩ : MethodName) (head1 (Jvm.Cond.code (⟨"com/example/minisum/minisum/Point", "equals", "(Ljava/lang/Object;)Z"⟩ : MethodName) prog_17_method_5_code 2 (some .boolean) :: ws) ({ frames := 0, cells := 0, slots := 0, locals := 0 } : Room)) (fun a U => a = #[(.ref r0), (.ref r1)] ∧ Z.Warmed39 U.vm ∧ U.heap = h0) (fun _ _ _ _ _ => True) (fun _ U o U' => ∃ v L, o = .returned v ∧ Q8i Z r0 r1 h0 n0 v U'.heap L ∧ FrameEnd U o U' L ({ frames := 0, cells := 0, slots := 0, locals := 0 } : Room).cells ({ frames := 0, cells := 0, slots := 0, locals := 0 } : Room).slots) := by
  refine MetFree.of_bodySF (plainFor_of_name pn2) hisR ?_
  intro p e s m args below meth c s₁ Bd hml0 hP hK
  obtain ⟨rfl, hZ, hh⟩ := hP
  have hx := Bd.exec
  have hby := Bd.bytes
  have hml : c.maxLocals = 2 := hml0
  have hown : s.vm.findClass "com/example/minisum/minisum/Point" = some m.cls := findClass_of_methodNamed Bd.named
  have hnm := (name_of_methodNamed Bd.named Bd.method).1
  have X0 : Stand p l e ({ frames := 0, cells := 0, slots := 0, locals := 0 } : Room) s m #[(.ref r0), (.ref r1)] below meth c s₁ [] 0 0 := Stand.of_body Bd
  have e0 : s₁.heap = h0 := by rw [← hh, Bd.state]; rfl
  have N0 := Fr.nil n0
  have pre0 : ∀ t, Steps p.tables e below (s₁.setTop (mkF m 0 #[.val (.ref r0), .val (.ref r1)] [])) t → Steps p.tables e below (s₁.setTop (entryFrame m #[(.ref r0), (.ref r1)] 2)) t := fun t k => castTop (ef8i m r0 r1) k
  obtain ⟨T101, X101, e101, st101⟩ := instNo X0 hx hZ hown (own_w hw 37 rfl) e0 E_r1 (own_no (own_w hw 58 rfl) (own_w hw 1 rfl) (NS.step (own_w hw 58 rfl) (NS.step (own_w hw 59 rfl) (own_root (own_w hw 60 rfl) (own_w hw 1 rfl) (by decide)) (by decide)) (by decide)) (by decide)) (g := (mkF m 1 #[.val (.ref r0), .val (.ref r1)] [(.ref r1)])) rfl rfl (hb hby d8_1)
  obtain ⟨fs, hr, hrun, hended, hW, hsame⟩ := X101.leave (v := some (.int 0)) (fun h => by rw [Bd.returns] at h; cases h)
  refine ⟨_, _, pre0 _ ?_, hrun, hended, _, _, rfl, ?_, ⟨_, rfl⟩, hW, hsame.mono (by decide) (by decide)⟩
  · show own_S p e below s₁ m 0 #[oR r0, oR r1] [] _
    refine XS.aloadN X0.here hx rfl (hb hby d8_0) rfl rfl ?_
    show own_S p e below s₁ m 1 #[oR r0, oR r1] [(.ref r1)] _
    refine st101 _ ?_
    show own_S p e below T101 m 4 #[oR r0, oR r1] [(.int 0)] _
    refine XS.ifYes X101.here hx rfl (pc0 := 4) (pc' := 45) rfl (hb hby d8_4) rfl ((if0 _ _).trans (teq (by decide : (0 : Int32) = (0 : Int32))).1) (by decide) (by decide) ?_
    show own_S p e below T101 m 45 #[oR r0, oR r1] [] _
    refine XS.iconst X101.here hx rfl (hb hby d8_45) ?_
    show own_S p e below T101 m 46 #[oR r0, oR r1] [(.int 0)] _
    exact retN X101 hx (t := .boolean) Bd.returns (by simp) (hb hby d8_46) hr
  · show Q8i Z r0 r1 h0 n0 _ T101.heap _
    rw [e101]
    exact ⟨rfl, N0, rfl⟩
theorem d14_0 : decode jdk_18_method_1_code 0 = .ok (.aload_n 0, 1) := by decide +kernel
theorem d14_1 : decode jdk_18_method_1_code 1 = .ok (.invokespecial 1, 3) := by decide +kernel
theorem d14_4 : decode jdk_18_method_1_code 4 = .ok (.return_, 1) := by decide +kernel
theorem pn3 : plainName "java/lang/Number" = true := by first | (simp [plainName, overriddenIn]; done) | decide +kernel
theorem efm14 (m : MethodId) (r0 : Addr) : entryFrame m #[(.ref r0)] 1 = mkF m 0 #[.val (.ref r0)] [] := by first | (simp [entryFrame, mkF, argsToLocals, Value.category]; done) | rfl
def Qm14 (Z : State) (r0 : Addr) (h0 : Heap) (n0 : Nat) (v : Option Value) (h : Heap) (L : List Loc) : Prop := v = none ∧ Fr n0 L ∧ (h = h0)
set_option maxRecDepth 65536 in
set_option maxHeartbeats 40000000 in
theorem rmm14 (l : Launch) (Z : State) (a0 : Array Value) (hw : ∀ d ∈ tables_1, d.before a0 Z = true) (ws : List Jvm.Cond) (r0 : Addr) (h0 : Heap) (n0 : Nat) (Z0 : n0 ≤ h0.size)  :
    MetFree l (⟨"java/lang/Number", "<init>", "()V"⟩ : MethodName) (head1 (Jvm.Cond.code (⟨"java/lang/Number", "<init>", "()V"⟩ : MethodName) jdk_18_method_1_code 1 none :: ws) ({ frames := 1, cells := 0, slots := 0, locals := 12 } : Room)) (fun a U => a = #[(.ref r0)] ∧ Z.Warmed39 U.vm ∧ U.heap = h0) (fun _ _ _ _ _ => True) (fun _ U o U' => ∃ v L, o = .returned v ∧ Qm14 Z r0 h0 n0 v U'.heap L ∧ FrameEnd U o U' L ({ frames := 1, cells := 0, slots := 0, locals := 12 } : Room).cells ({ frames := 1, cells := 0, slots := 0, locals := 12 } : Room).slots) := by
  refine MetFree.of_bodySF (plainFor_of_name pn3) hisR ?_
  intro p e s m args below meth c s₁ Bd hml0 hP hK
  obtain ⟨rfl, hZ, hh⟩ := hP
  have hx := Bd.exec
  have hby := Bd.bytes
  have hml : c.maxLocals = 1 := hml0
  have hown : s.vm.findClass "java/lang/Number" = some m.cls := findClass_of_methodNamed Bd.named
  have hnm := (name_of_methodNamed Bd.named Bd.method).1
  have X0 : Stand p l e ({ frames := 1, cells := 0, slots := 0, locals := 12 } : Room) s m #[(.ref r0)] below meth c s₁ [] 0 0 := Stand.of_body Bd
  have e0 : s₁.heap = h0 := by rw [← hh, Bd.state]; rfl
  have N0 := Fr.nil n0
  have pre0 : ∀ t, Steps p.tables e below (s₁.setTop (mkF m 0 #[.val (.ref r0)] [])) t → Steps p.tables e below (s₁.setTop (entryFrame m #[(.ref r0)] 1)) t := fun t k => castTop (efm14 m r0) k
  obtain ⟨T101, X101, e101, st101⟩ := initO X0 hx hZ hown (own_w hw 73 rfl) (own_w hw 11 rfl) (own_w hw 12 rfl) e0 (g := (mkF m 1 #[.val (.ref r0)] [(.ref r0)])) rfl (by rw [hml]; rfl) rfl (hb hby d14_1) (by decide) (W := 0) (by show 2 * 0 + _ ≤ _; exact Nat.le_of_eq rfl) (by decide)
  obtain ⟨fs, hr, hrun, hended, hW, hsame⟩ := X101.leave (v := none) (fun _ => rfl)
  refine ⟨_, _, pre0 _ ?_, hrun, hended, _, _, rfl, ?_, ⟨_, rfl⟩, hW, hsame.mono (by decide) (by decide)⟩
  · show own_S p e below s₁ m 0 #[oR r0] [] _
    refine XS.aloadN X0.here hx rfl (hb hby d14_0) rfl rfl ?_
    show own_S p e below s₁ m 1 #[oR r0] [(.ref r0)] _
    refine st101 _ ?_
    show own_S p e below T101 m 4 #[oR r0] [] _
    exact X101.returnOut hx Bd.returns (hb hby d14_4) hr
  · show Qm14 Z r0 h0 n0 _ T101.heap _
    rw [e101]
    exact ⟨rfl, N0, rfl⟩
theorem pd6 : parseMethodDescriptor "()V" = some ⟨[], none⟩ := by decide +kernel
theorem d13_0 : decode jdk_33_method_23_code 0 = .ok (.aload_n 0, 1) := by decide +kernel
theorem d13_1 : decode jdk_33_method_23_code 1 = .ok (.invokespecial 202, 3) := by decide +kernel
theorem d13_4 : decode jdk_33_method_23_code 4 = .ok (.aload_n 0, 1) := by decide +kernel
theorem d13_5 : decode jdk_33_method_23_code 5 = .ok (.iload_n 1, 1) := by decide +kernel
theorem d13_6 : decode jdk_33_method_23_code 6 = .ok (.putfield 205, 3) := by decide +kernel
theorem d13_9 : decode jdk_33_method_23_code 9 = .ok (.return_, 1) := by decide +kernel
theorem pn4 : plainName "java/lang/Integer" = true := by first | (simp [plainName, overriddenIn]; done) | decide +kernel
theorem efm13 (m : MethodId) (r0 : Addr) (p1 : Int32) : entryFrame m #[(.ref r0), (.int p1)] 2 = mkF m 0 #[.val (.ref r0), .val (.int p1)] [] := by first | (simp [entryFrame, mkF, argsToLocals, Value.category]; done) | rfl
def Qm13 (Z : State) (r0 : Addr) (p1 : Int32) (u0 : Value) (h0 : Heap) (n0 : Nat) (v : Option Value) (h : Heap) (L : List Loc) : Prop := v = none ∧ Fr n0 L ∧ (Keep h0 h [r0]) ∧ (Exa Z h r0 "java/lang/Integer")
set_option maxRecDepth 65536 in
set_option maxHeartbeats 40000000 in
theorem rmm13 (l : Launch) (Z : State) (a0 : Array Value) (hw : ∀ d ∈ tables_1, d.before a0 Z = true) (ws : List Jvm.Cond) (r0 : Addr) (p1 : Int32) (u0 : Value) (h0 : Heap) (n0 : Nat) (Z0 : n0 ≤ h0.size) (F_value_r0 : Fld Z h0 r0 "java/lang/Integer" "value" "I" u0) (E_r0 : Exa Z h0 r0 "java/lang/Integer") (g_r0 : n0 ≤ r0) :
    MetFree l (⟨"java/lang/Integer", "<init>", "(I)V"⟩ : MethodName) (head1 (Jvm.Cond.code (⟨"java/lang/Integer", "<init>", "(I)V"⟩ : MethodName) jdk_33_method_23_code 2 none :: ws) ({ frames := 2, cells := 0, slots := 0, locals := 24 } : Room)) (fun a U => a = #[(.ref r0), (.int p1)] ∧ Z.Warmed39 U.vm ∧ U.heap = h0) (fun _ _ _ _ _ => True) (fun _ U o U' => ∃ v L, o = .returned v ∧ Qm13 Z r0 p1 u0 h0 n0 v U'.heap L ∧ FrameEnd U o U' L ({ frames := 2, cells := 0, slots := 0, locals := 24 } : Room).cells ({ frames := 2, cells := 0, slots := 0, locals := 24 } : Room).slots) := by
  refine MetFree.of_bodySF (plainFor_of_name pn4) hisR ?_
  intro p e s m args below meth c s₁ Bd hml0 hP hK
  obtain ⟨rfl, hZ, hh⟩ := hP
  have hx := Bd.exec
  have hby := Bd.bytes
  have hml : c.maxLocals = 2 := hml0
  have hown : s.vm.findClass "java/lang/Integer" = some m.cls := findClass_of_methodNamed Bd.named
  have hnm := (name_of_methodNamed Bd.named Bd.method).1
  have X0 : Stand p l e ({ frames := 2, cells := 0, slots := 0, locals := 24 } : Room) s m #[(.ref r0), (.int p1)] below meth c s₁ [] 0 0 := Stand.of_body Bd
  have e0 : s₁.heap = h0 := by rw [← hh, Bd.state]; rfl
  have N0 := Fr.nil n0
  have pre0 : ∀ t, Steps p.tables e below (s₁.setTop (mkF m 0 #[.val (.ref r0), .val (.int p1)] [])) t → Steps p.tables e below (s₁.setTop (entryFrame m #[(.ref r0), (.int p1)] 2)) t := fun t k => castTop (efm13 m r0 p1) k
  obtain ⟨_, _, ⟨T101, L101, k101, n101⟩, -, X101, ⟨Lc101, hQ101, l101, y101, z101⟩, st101⟩ := X0.specialBack hx (y := (⟨"java/lang/Number", "<init>", "()V"⟩ : MethodName)) rfl hown (mvT hZ (own_w hw 67 rfl)) (mvT hZ (own_w hw 68 rfl)) (mvT hZ (own_w hw 72 rfl)) (by decide) (backOf (W := 0) (rmm14 l Z a0 hw [] r0 h0 n0 Z0 ) hZ (own_w hw 72 rfl) (own_w hw 71 rfl) (by decide) (by decide)) (g := (mkF m 1 #[.val (.ref r0), .val (.int p1)] [(.ref r0)])) rfl (by rw [hml]; rfl) (Steps.refl _) (a := r0) (argsL := []) (rest := []) (lenOf pd6 rfl) rfl (by show 2 * 0 + _ ≤ _; exact Nat.le_of_eq rfl) (hb hby d13_1) (fun _ _ => ⟨rfl, e0, (by decide : 0 + 0 ≤ _), (by decide : 0 + 0 ≤ _)⟩)
  dsimp only [Pt.U, Pt.locs, Pt.cells, Pt.slots] at X101 l101 y101 z101 st101 hQ101
  subst l101 y101 z101
  obtain ⟨rfl, Nq101, P101_0⟩ := hQ101
  have N101 := Fr.app N0 Nq101
  obtain ⟨T102, h102, X102, e102, W102, st102⟩ := putF X101 hx hZ hown (host := "") (Or.inl (own_w hw 74 rfl)) Via.refl P101_0 F_value_r0 E_r0 (Or.inr ⟨(own_w hw 75 rfl), rfl, hnm⟩) (own_w hw 62 rfl) (ty := .int) (by decide) rfl rfl (g := (mkF m 6 #[.val (.ref r0), .val (.int p1)] [(.int p1), (.ref r0)])) rfl rfl (hb hby d13_6)
  have Fw102 := F_value_r0.same W102
  have N102 := Fr.snoc X102 N101 g_r0
  have ZZ103 : n0 ≤ h102.size := Nat.le_trans Z0 (Nat.le_of_eq W102.size.symm)
  have KK104 : Keep h0 h102 [r0] := (Keep.refl h0 [r0]).wr W102 (Or.inl (List.mem_of_getElem? (i := 0) rfl))
  obtain ⟨fs, hr, hrun, hended, hW, hsame⟩ := X102.leave (v := none) (fun _ => rfl)
  refine ⟨_, _, pre0 _ ?_, hrun, hended, _, _, rfl, ?_, ⟨_, rfl⟩, hW, hsame.mono (by decide) (by decide)⟩
  · show own_S p e below s₁ m 0 #[oR r0, oI p1] [] _
    refine XS.aloadN X0.here hx rfl (hb hby d13_0) rfl rfl ?_
    show own_S p e below s₁ m 1 #[oR r0, oI p1] [(.ref r0)] _
    refine st101.trans ?_
    show own_S p e below T101 m 4 #[oR r0, oI p1] [] _
    refine XS.aloadN X101.here hx rfl (hb hby d13_4) rfl rfl ?_
    show own_S p e below T101 m 5 #[oR r0, oI p1] [(.ref r0)] _
    refine XS.iloadN X101.here hx rfl (hb hby d13_5) rfl ?_
    show own_S p e below T101 m 6 #[oR r0, oI p1] [(.int p1), (.ref r0)] _
    refine st102 _ ?_
    show own_S p e below T102 m 9 #[oR r0, oI p1] [] _
    exact X102.returnOut hx Bd.returns (hb hby d13_9) hr
  · show Qm13 Z r0 p1 u0 h0 n0 _ T102.heap _
    rw [e102]
    exact ⟨rfl, N102, KK104, (E_r0.wr W102)⟩
theorem pd7 : parseMethodDescriptor "(I)V" = some ⟨[.int], none⟩ := by decide +kernel
theorem d12_0 : decode jdk_33_method_22_code 0 = .ok (.iload_n 0, 1) := by decide +kernel
theorem d12_1 : decode jdk_33_method_22_code 1 = .ok (.bipush (-128), 2) := by decide +kernel
theorem d12_3 : decode jdk_33_method_22_code 3 = .ok (.if_icmp .lt 20, 3) := by decide +kernel
theorem d12_6 : decode jdk_33_method_22_code 6 = .ok (.iload_n 0, 1) := by decide +kernel
theorem d12_7 : decode jdk_33_method_22_code 7 = .ok (.getstatic 191, 3) := by decide +kernel
theorem d12_10 : decode jdk_33_method_22_code 10 = .ok (.if_icmp .gt 13, 3) := by decide +kernel
theorem d12_13 : decode jdk_33_method_22_code 13 = .ok (.getstatic 195, 3) := by decide +kernel
theorem d12_16 : decode jdk_33_method_22_code 16 = .ok (.iload_n 0, 1) := by decide +kernel
theorem d12_17 : decode jdk_33_method_22_code 17 = .ok (.sipush 128, 3) := by decide +kernel
theorem d12_20 : decode jdk_33_method_22_code 20 = .ok (.iadd, 1) := by decide +kernel
theorem d12_21 : decode jdk_33_method_22_code 21 = .ok (.aaload, 1) := by decide +kernel
theorem d12_22 : decode jdk_33_method_22_code 22 = .ok (.areturn, 1) := by decide +kernel
theorem d12_23 : decode jdk_33_method_22_code 23 = .ok (.new 1, 3) := by decide +kernel
theorem d12_26 : decode jdk_33_method_22_code 26 = .ok (.dup, 1) := by decide +kernel
theorem d12_27 : decode jdk_33_method_22_code 27 = .ok (.iload_n 0, 1) := by decide +kernel
theorem d12_28 : decode jdk_33_method_22_code 28 = .ok (.invokespecial 199, 3) := by decide +kernel
theorem d12_31 : decode jdk_33_method_22_code 31 = .ok (.areturn, 1) := by decide +kernel
theorem efm12 (m : MethodId) (p0 : Int32) : entryFrame m #[(.int p0)] 1 = mkF m 0 #[.val (.int p0)] [] := by first | (simp [entryFrame, mkF, argsToLocals, Value.category]; done) | rfl
def Qm12 (Z : State) (p0 : Int32) (ca : Addr) (cl : Cell) (h0 : Heap) (n0 : Nat) (v : Option Value) (h : Heap) (L : List Loc) : Prop := ∃ b : Addr, v = some (.ref b) ∧ Fr n0 L ∧ (Keep h0 h []) ∧ (Exa Z h b "java/lang/Integer")
set_option maxRecDepth 65536 in
set_option maxHeartbeats 40000000 in
theorem rmm12 (l : Launch) (Z : State) (a0 : Array Value) (hw : ∀ d ∈ tables_1, d.before a0 Z = true) (ws : List Jvm.Cond) (p0 : Int32) (ca : Addr) (cl : Cell) (h0 : Heap) (n0 : Nat) (Z0 : n0 ≤ h0.size) (hOld : Old Z n0 h0) (S_high : Sta Z Z.heap "java/lang/Integer$IntegerCache" "high" "I" (.int 127)) (S_cache : Sta Z Z.heap "java/lang/Integer$IntegerCache" "cache" "[Ljava/lang/Integer;" (.ref ca)) (hBx : Bxs Z ca cl "java/lang/Integer" "I" (256 : Int32) (fun j => .int (j - (128 : Int32)))) :
    MetFree l (⟨"java/lang/Integer", "valueOf", "(I)Ljava/lang/Integer;"⟩ : MethodName) (head1 (Jvm.Cond.code (⟨"java/lang/Integer", "valueOf", "(I)Ljava/lang/Integer;"⟩ : MethodName) jdk_33_method_22_code 1 (some (.object "java/lang/Integer")) :: ws) ({ frames := 3, cells := 1, slots := 1, locals := 38 } : Room)) (fun a U => a = #[(.int p0)] ∧ Z.Warmed39 U.vm ∧ U.heap = h0) (fun _ _ _ _ _ => True) (fun _ U o U' => ∃ v L, o = .returned v ∧ Qm12 Z p0 ca cl h0 n0 v U'.heap L ∧ FrameEnd U o U' L ({ frames := 3, cells := 1, slots := 1, locals := 38 } : Room).cells ({ frames := 3, cells := 1, slots := 1, locals := 38 } : Room).slots) := by
  refine MetFree.of_bodySF (plainFor_of_name pn4) hisR ?_
  intro p e s m args below meth c s₁ Bd hml0 hP hK
  obtain ⟨rfl, hZ, hh⟩ := hP
  have hx := Bd.exec
  have hby := Bd.bytes
  have hml : c.maxLocals = 1 := hml0
  have hown : s.vm.findClass "java/lang/Integer" = some m.cls := findClass_of_methodNamed Bd.named
  have hnm := (name_of_methodNamed Bd.named Bd.method).1
  have X0 : Stand p l e ({ frames := 3, cells := 1, slots := 1, locals := 38 } : Room) s m #[(.int p0)] below meth c s₁ [] 0 0 := Stand.of_body Bd
  have e0 : s₁.heap = h0 := by rw [← hh, Bd.state]; rfl
  have N0 := Fr.nil n0
  have pre0 : ∀ t, Steps p.tables e below (s₁.setTop (mkF m 0 #[.val (.int p0)] [])) t → Steps p.tables e below (s₁.setTop (entryFrame m #[(.int p0)] 1)) t := fun t k => castTop (efm12 m p0) k
  have pre101 : ∀ t, Steps p.tables e below (s₁.setTop (mkF m 3 #[.val (.int p0)] [(.int (-128)), (.int p0)])) t → Steps p.tables e below (s₁.setTop (mkF m 0 #[.val (.int p0)] [])) t := by
    intro t kt
    show own_S p e below s₁ m 0 #[oI p0] [] _
    refine XS.iloadN X0.here hx rfl (hb hby d12_0) rfl ?_
    show own_S p e below s₁ m 1 #[oI p0] [(.int p0)] _
    refine XS.bipush X0.here hx rfl (hb hby d12_1) ?_
    exact kt
  by_cases hlo : p0 < (-128 : Int32)
  · skip
    obtain ⟨T102, h102, X102, e102, E102, A102, D102, -, st102⟩ := newO X0 hx hZ hown (own_w hw 61 rfl) (own_w hw 62 rfl) (own_w hw 53 rfl) e0 (g := (mkF m 23 #[.val (.int p0)] [])) rfl (hb hby d12_23) (by decide) (by decide)
    obtain ⟨b102, g102⟩ : ∃ z, z = h0.size := ⟨_, rfl⟩
    rw [← g102] at A102 D102 st102
    have g_b102 : n0 ≤ b102 := Nat.le_trans Z0 (Nat.le_of_eq g102.symm)
    have sz_b102 : h0.size ≤ b102 := Nat.le_trans (Keep.refl h0 []).1 (Nat.le_of_eq g102.symm)
    have ZZ103 : n0 ≤ h102.size := Nat.le_trans Z0 E102.1
    have KK104 : Keep h0 h102 [] := (Keep.refl h0 []).ext E102
    have F_value_b102 : Fld Z h102 b102 "java/lang/Integer" "value" "I" (.int 0) := D102 (Or.inr (own_w hw 75 rfl)) (ty := .int) (by decide)
    obtain ⟨_, _, ⟨T105, L105, k105, n105⟩, -, X105, ⟨Lc105, hQ105, l105, y105, z105⟩, st105⟩ := X102.specialBack hx (y := (⟨"java/lang/Integer", "<init>", "(I)V"⟩ : MethodName)) rfl hown (mvT hZ (own_w hw 63 rfl)) (mvT hZ (own_w hw 64 rfl)) (mvT hZ (own_w hw 66 rfl)) (by decide) (backOf (W := 1) (rmm13 l Z a0 hw [] b102 p0 (.int 0) h102 n0 ZZ103 F_value_b102 A102 g_b102) hZ (own_w hw 66 rfl) (own_w hw 53 rfl) (by decide) (by decide)) (g := (mkF m 28 #[.val (.int p0)] [(.int p0), (.ref b102), (.ref b102)])) rfl (by rw [hml]; rfl) (Steps.refl _) (a := b102) (argsL := [(.int p0)]) (rest := [(.ref b102)]) (lenOf pd7 rfl) rfl (by show 2 * 0 + _ ≤ _; exact Nat.le_of_eq rfl) (hb hby d12_28) (fun _ _ => ⟨rfl, e102, (by decide : 1 + 0 ≤ _), (by decide : 1 + 0 ≤ _)⟩)
    dsimp only [Pt.U, Pt.locs, Pt.cells, Pt.slots] at X105 l105 y105 z105 st105 hQ105
    subst l105 y105 z105
    obtain ⟨rfl, Nq105, P105_0, P105_1⟩ := hQ105
    have N105 := Fr.app N0 Nq105
    have ZZ106 : n0 ≤ T105.heap.size := Nat.le_trans ZZ103 P105_0.1
    have KK107 : Keep h0 T105.heap [] := Keep.trans KK104 P105_0 (allS (Or.inr sz_b102) all0)
    obtain ⟨fs, hr, hrun, hended, hW, hsame⟩ := X105.leave (v := some (.ref b102)) (fun h => by rw [Bd.returns] at h; cases h)
    refine ⟨_, _, pre0 _ (pre101 _ ?_), hrun, hended, _, _, rfl, ?_, ⟨_, rfl⟩, hW, hsame.mono (by decide) (by decide)⟩
    · show own_S p e below s₁ m 3 #[oI p0] [(.int (-128)), (.int p0)] _
      refine XS.icmpYes X0.here hx rfl (pc0 := 3) (pc' := 23) rfl (hb hby d12_3) rfl (tlt (hlo : p0 < (-128 : Int32))).1 (by decide) (by decide) ?_
      show own_S p e below s₁ m 23 #[oI p0] [] _
      refine st102 _ ?_
      show own_S p e below T102 m 26 #[oI p0] [(.ref b102)] _
      refine XS.dup X102.here hx rfl (hb hby d12_26) rfl rfl ?_
      show own_S p e below T102 m 27 #[oI p0] [(.ref b102), (.ref b102)] _
      refine XS.iloadN X102.here hx rfl (hb hby d12_27) rfl ?_
      show own_S p e below T102 m 28 #[oI p0] [(.int p0), (.ref b102), (.ref b102)] _
      refine st105.trans ?_
      show own_S p e below T105 m 31 #[oI p0] [(.ref b102)] _
      exact retOut X105 hx Bd.returns rfl (Or.inr (Or.inr (Or.inr (Or.inr ⟨rfl, rfl, rfl⟩)))) (hb hby d12_31) hr
    · show Qm12 Z p0 ca cl h0 n0 _ T105.heap _
      exact ⟨b102, rfl, N105, KK107, P105_1⟩
  · skip
    have Fz108 := (S_high.ext hOld.2)
    obtain ⟨T109, X109, e109, st109⟩ := getS2 X0 hx hZ hown (host := "") (Or.inl (own_w hw 55 rfl)) Via.refl e0 Fz108 (g := (mkF m 7 #[.val (.int p0)] [(.int p0)])) rfl (hb hby d12_7)
    have pre110 : ∀ t, Steps p.tables e below (T109.setTop (mkF m 10 #[.val (.int p0)] [(.int 127), (.int p0)])) t → Steps p.tables e below (s₁.setTop (mkF m 0 #[.val (.int p0)] [])) t := by
      intro t kt
      refine pre101 _ ?_
      show own_S p e below s₁ m 3 #[oI p0] [(.int (-128)), (.int p0)] _
      refine XS.icmpNo X0.here hx rfl (hb hby d12_3) rfl (flt (hlo : ¬ (p0 < (-128 : Int32)))).1 ?_
      show own_S p e below s₁ m 6 #[oI p0] [] _
      refine XS.iloadN X0.here hx rfl (hb hby d12_6) rfl ?_
      show own_S p e below s₁ m 7 #[oI p0] [(.int p0)] _
      refine st109 _ ?_
      exact kt
    by_cases hhi : (127 : Int32) < p0
    · skip
      obtain ⟨T111, h111, X111, e111, E111, A111, D111, -, st111⟩ := newO X109 hx hZ hown (own_w hw 61 rfl) (own_w hw 62 rfl) (own_w hw 53 rfl) e109 (g := (mkF m 23 #[.val (.int p0)] [])) rfl (hb hby d12_23) (by decide) (by decide)
      obtain ⟨b111, g111⟩ : ∃ z, z = h0.size := ⟨_, rfl⟩
      rw [← g111] at A111 D111 st111
      have g_b111 : n0 ≤ b111 := Nat.le_trans Z0 (Nat.le_of_eq g111.symm)
      have sz_b111 : h0.size ≤ b111 := Nat.le_trans (Keep.refl h0 []).1 (Nat.le_of_eq g111.symm)
      have ZZ112 : n0 ≤ h111.size := Nat.le_trans Z0 E111.1
      have KK113 : Keep h0 h111 [] := (Keep.refl h0 []).ext E111
      have F_value_b111 : Fld Z h111 b111 "java/lang/Integer" "value" "I" (.int 0) := D111 (Or.inr (own_w hw 75 rfl)) (ty := .int) (by decide)
      obtain ⟨_, _, ⟨T114, L114, k114, n114⟩, -, X114, ⟨Lc114, hQ114, l114, y114, z114⟩, st114⟩ := X111.specialBack hx (y := (⟨"java/lang/Integer", "<init>", "(I)V"⟩ : MethodName)) rfl hown (mvT hZ (own_w hw 63 rfl)) (mvT hZ (own_w hw 64 rfl)) (mvT hZ (own_w hw 66 rfl)) (by decide) (backOf (W := 1) (rmm13 l Z a0 hw [] b111 p0 (.int 0) h111 n0 ZZ112 F_value_b111 A111 g_b111) hZ (own_w hw 66 rfl) (own_w hw 53 rfl) (by decide) (by decide)) (g := (mkF m 28 #[.val (.int p0)] [(.int p0), (.ref b111), (.ref b111)])) rfl (by rw [hml]; rfl) (Steps.refl _) (a := b111) (argsL := [(.int p0)]) (rest := [(.ref b111)]) (lenOf pd7 rfl) rfl (by show 2 * 0 + _ ≤ _; exact Nat.le_of_eq rfl) (hb hby d12_28) (fun _ _ => ⟨rfl, e111, (by decide : 1 + 0 ≤ _), (by decide : 1 + 0 ≤ _)⟩)
      dsimp only [Pt.U, Pt.locs, Pt.cells, Pt.slots] at X114 l114 y114 z114 st114 hQ114
      subst l114 y114 z114
      obtain ⟨rfl, Nq114, P114_0, P114_1⟩ := hQ114
      have N114 := Fr.app N0 Nq114
      have ZZ115 : n0 ≤ T114.heap.size := Nat.le_trans ZZ112 P114_0.1
      have KK116 : Keep h0 T114.heap [] := Keep.trans KK113 P114_0 (allS (Or.inr sz_b111) all0)
      obtain ⟨fs, hr, hrun, hended, hW, hsame⟩ := X114.leave (v := some (.ref b111)) (fun h => by rw [Bd.returns] at h; cases h)
      refine ⟨_, _, pre0 _ (pre110 _ ?_), hrun, hended, _, _, rfl, ?_, ⟨_, rfl⟩, hW, hsame.mono (by decide) (by decide)⟩
      · show own_S p e below T109 m 10 #[oI p0] [(.int 127), (.int p0)] _
        refine XS.icmpYes X109.here hx rfl (pc0 := 10) (pc' := 23) rfl (hb hby d12_10) rfl (tlt (hhi : (127 : Int32) < p0)).2.2.1 (by decide) (by decide) ?_
        show own_S p e below T109 m 23 #[oI p0] [] _
        refine st111 _ ?_
        show own_S p e below T111 m 26 #[oI p0] [(.ref b111)] _
        refine XS.dup X111.here hx rfl (hb hby d12_26) rfl rfl ?_
        show own_S p e below T111 m 27 #[oI p0] [(.ref b111), (.ref b111)] _
        refine XS.iloadN X111.here hx rfl (hb hby d12_27) rfl ?_
        show own_S p e below T111 m 28 #[oI p0] [(.int p0), (.ref b111), (.ref b111)] _
        refine st114.trans ?_
        show own_S p e below T114 m 31 #[oI p0] [(.ref b111)] _
        exact retOut X114 hx Bd.returns rfl (Or.inr (Or.inr (Or.inr (Or.inr ⟨rfl, rfl, rfl⟩)))) (hb hby d12_31) hr
      · show Qm12 Z p0 ca cl h0 n0 _ T114.heap _
        exact ⟨b111, rfl, N114, KK116, P114_1⟩
    · skip
      have hAr := (hBx.ext hOld.2).1
      have hin : ¬ ((p0 + (128 : Int32)) < 0 ∨ cl.slots.size ≤ (p0 + (128 : Int32)).toNatClampNeg) := inb_of hBx.2.1 (own_cin hlo hhi)
      obtain ⟨bc, hat, hEb, -⟩ := hBx.2.2.2 _ hin
      have Fz117 := (S_cache.ext hOld.2)
      obtain ⟨T118, X118, e118, st118⟩ := getS2 X109 hx hZ hown (host := "") (Or.inl (own_w hw 57 rfl)) Via.refl e109 Fz117 (g := (mkF m 13 #[.val (.int p0)] [])) rfl (hb hby d12_13)
      obtain ⟨fs, hr, hrun, hended, hW, hsame⟩ := X118.leave (v := some (.ref bc)) (fun h => by rw [Bd.returns] at h; cases h)
      refine ⟨_, _, pre0 _ (pre110 _ ?_), hrun, hended, _, _, rfl, ?_, ⟨_, rfl⟩, hW, hsame.mono (by decide) (by decide)⟩
      · show own_S p e below T109 m 10 #[oI p0] [(.int 127), (.int p0)] _
        refine XS.icmpNo X109.here hx rfl (hb hby d12_10) rfl (flt (hhi : ¬ ((127 : Int32) < p0))).2.2.1 ?_
        show own_S p e below T109 m 13 #[oI p0] [] _
        refine st118 _ ?_
        show own_S p e below T118 m 16 #[oI p0] [(.ref ca)] _
        refine XS.iloadN X118.here hx rfl (hb hby d12_16) rfl ?_
        show own_S p e below T118 m 17 #[oI p0] [(.int p0), (.ref ca)] _
        refine XS.sipush X118.here hx rfl (hb hby d12_17) ?_
        show own_S p e below T118 m 20 #[oI p0] [(.int 128), (.int p0), (.ref ca)] _
        refine XS.iadd X118.here hx rfl (hb hby d12_20) rfl ?_
        show own_S p e below T118 m 21 #[oI p0] [(.int (p0 + (128 : Int32))), (.ref ca)] _
        refine X118.aaload hx (j := (p0 + (128 : Int32))) (v := (.ref bc)) (by rw [e118]; exact hAr.1) (State.isArrayOf_alike hZ.alike hAr.2.1) rfl hAr.2.2 hin hat (g := (mkF m 21 #[.val (.int p0)] [(.int (p0 + (128 : Int32))), (.ref ca)])) rfl rfl (hb hby d12_21) _ ?_
        show own_S p e below T118 m 22 #[oI p0] [(.ref bc)] _
        exact retOut X118 hx Bd.returns rfl (Or.inr (Or.inr (Or.inr (Or.inr ⟨rfl, rfl, rfl⟩)))) (hb hby d12_22) hr
      · show Qm12 Z p0 ca cl h0 n0 _ T118.heap _
        rw [e118]
        exact ⟨bc, rfl, N0, (Keep.refl h0 []), (hEb.ext hOld.2)⟩
theorem pd8 : parseMethodDescriptor "(I)D" = some ⟨[.int], some .double⟩ := by decide +kernel
theorem pd9 : parseMethodDescriptor "(DD)V" = some ⟨[.double, .double], none⟩ := by decide +kernel
theorem pd10 : parseMethodDescriptor "(II)Z" = some ⟨[.int, .int], some .boolean⟩ := by decide +kernel
theorem pd11 : parseMethodDescriptor "(Ljava/lang/Object;)Z" = some ⟨[(.object "java/lang/Object")], some .boolean⟩ := by decide +kernel
theorem pd12 : parseMethodDescriptor "(I)Ljava/lang/Integer;" = some ⟨[.int], some (.object "java/lang/Integer")⟩ := by decide +kernel
theorem efm0 (m : MethodId) (p0 : Int32) (p1 : Int32) (p2 : Int32) (p3 : Int32) (p4 : Int32) : entryFrame m #[(.int p0), (.int p1), (.int p2), (.int p3), (.int p4)] maxLocals = mkF m 0 #[.val (.int p0), .val (.int p1), .val (.int p2), .val (.int p3), .val (.int p4), .unset, .unset, .unset, .unset] [] := by first | (simp [entryFrame, mkF, argsToLocals, Value.category, maxLocals]; done) | rfl
def Qm0 (Z : State) (p0 : Int32) (p1 : Int32) (p2 : Int32) (p3 : Int32) (p4 : Int32) (ca : Addr) (cl : Cell) (h0 : Heap) (n0 : Nat) (v : Option Value) (h : Heap) (L : List Loc) : Prop := v = some (.int 1) ∧ Fr n0 L
set_option maxRecDepth 65536 in
set_option maxHeartbeats 40000000 in
theorem rmm0 (l : Launch) (Z : State) (a0 : Array Value) (hw : ∀ d ∈ tables_1, d.before a0 Z = true) (ws : List Jvm.Cond) (p0 : Int32) (p1 : Int32) (p2 : Int32) (p3 : Int32) (p4 : Int32) (ca : Addr) (cl : Cell) (h0 : Heap) (n0 : Nat) (Z0 : n0 ≤ h0.size) (hOld : Old Z n0 h0) (S_high : Sta Z Z.heap "java/lang/Integer$IntegerCache" "high" "I" (.int 127)) (S_cache : Sta Z Z.heap "java/lang/Integer$IntegerCache" "cache" "[Ljava/lang/Integer;" (.ref ca)) (hBx : Bxs Z ca cl "java/lang/Integer" "I" (256 : Int32) (fun j => .int (j - (128 : Int32)))) :
    MetFree l x (head1 (Jvm.Cond.code x code maxLocals ret :: ws) room_1) (fun a U => a = #[(.int p0), (.int p1), (.int p2), (.int p3), (.int p4)] ∧ Z.Warmed39 U.vm ∧ U.heap = h0) (fun _ _ _ _ _ => True) (fun _ U o U' => ∃ v L, o = .returned v ∧ Qm0 Z p0 p1 p2 p3 p4 ca cl h0 n0 v U'.heap L ∧ FrameEnd U o U' L room_1.cells room_1.slots) := by
  refine MetFree.of_bodySF (plainFor_of_name pn0) hisR ?_
  intro p e s m args below meth c s₁ Bd hml0 hP hK
  obtain ⟨rfl, hZ, hh⟩ := hP
  have hx := Bd.exec
  have hby := Bd.bytes
  have hml : c.maxLocals = 9 := hml0
  have hown : s.vm.findClass "com/example/minisum/minisum/PointEqualsPinLaw" = some m.cls := findClass_of_methodNamed Bd.named
  have hnm := (name_of_methodNamed Bd.named Bd.method).1
  have X0 : Stand p l e room_1 s m #[(.int p0), (.int p1), (.int p2), (.int p3), (.int p4)] below meth c s₁ [] 0 0 := Stand.of_body Bd
  have e0 : s₁.heap = h0 := by rw [← hh, Bd.state]; rfl
  have N0 := Fr.nil n0
  have pre0 : ∀ t, Steps p.tables e below (s₁.setTop (mkF m 0 #[.val (.int p0), .val (.int p1), .val (.int p2), .val (.int p3), .val (.int p4), .unset, .unset, .unset, .unset] [])) t → Steps p.tables e below (s₁.setTop (entryFrame m #[(.int p0), (.int p1), (.int p2), (.int p3), (.int p4)] maxLocals)) t := fun t k => castTop (efm0 m p0 p1 p2 p3 p4) k
  obtain ⟨T101, h101, X101, e101, E101, A101, D101, -, st101⟩ := newO X0 hx hZ hown (own_w hw 0 rfl) (own_w hw 1 rfl) (own_w hw 2 rfl) e0 (g := (mkF m 0 #[.val (.int p0), .val (.int p1), .val (.int p2), .val (.int p3), .val (.int p4), .unset, .unset, .unset, .unset] [])) rfl (hb hby at_0) (by decide) (by decide)
  obtain ⟨b101, g101⟩ : ∃ z, z = h0.size := ⟨_, rfl⟩
  rw [← g101] at A101 D101 st101
  have g_b101 : n0 ≤ b101 := Nat.le_trans Z0 (Nat.le_of_eq g101.symm)
  have ZZ102 : n0 ≤ h101.size := Nat.le_trans Z0 E101.1
  have F_x_b101 : Fld Z h101 b101 "com/example/minisum/minisum/Point" "x" "D" (.double 0) := D101 (Or.inr (own_w hw 23 rfl)) (ty := .double) (by decide)
  have F_y_b101 : Fld Z h101 b101 "com/example/minisum/minisum/Point" "y" "D" (.double 0) := D101 (Or.inr (own_w hw 25 rfl)) (ty := .double) (by decide)
  obtain ⟨_, _, ⟨T103, L103, k103, n103⟩, -, X103, ⟨Lc103, hQ103, l103, y103, z103⟩, st103⟩ := Jvm.LawKit.callS X101 hx (y := (⟨"com/example/minisum/minisum/PointEqualsPinLaw", "coord", "(I)D"⟩ : MethodName)) hown (mvT hZ (own_w hw 3 rfl)) (mvT hZ (own_w hw 4 rfl)) (mvT hZ (own_w hw 5 rfl)) (mvT hZ (own_w hw 6 rfl)) (by decide) (backOf (W := 2) (rmm1 l Z a0 hw [] p0 h101 n0 ZZ102 ) hZ (own_w hw 6 rfl) (own_w hw 5 rfl) (by decide) (by decide)) (g := (mkF m 5 #[.val (.int p0), .val (.int p1), .val (.int p2), .val (.int p3), .val (.int p4), .unset, .unset, .unset, .unset] [(.int p0), (.ref b101), (.ref b101)])) rfl (by rw [hml]; rfl) (argsL := [(.int p0)]) (rest := [(.ref b101), (.ref b101)]) (lenOf pd8 rfl) rfl (by show 2 * 0 + _ ≤ _; exact Nat.le_of_eq rfl) (hb hby at_5) (fun _ _ => ⟨rfl, e101, (by decide : 1 + 0 ≤ _), (by decide : 2 + 0 ≤ _)⟩)
  dsimp only [Pt.U, Pt.locs, Pt.cells, Pt.slots] at X103 l103 y103 z103 st103 hQ103
  subst l103 y103 z103
  obtain ⟨rfl, Nq103, P103_0⟩ := hQ103
  have N103 := Fr.app N0 Nq103
  obtain ⟨_, _, ⟨T104, L104, k104, n104⟩, -, X104, ⟨Lc104, hQ104, l104, y104, z104⟩, st104⟩ := Jvm.LawKit.callS X103 hx (y := (⟨"com/example/minisum/minisum/PointEqualsPinLaw", "coord", "(I)D"⟩ : MethodName)) hown (mvT hZ (own_w hw 3 rfl)) (mvT hZ (own_w hw 4 rfl)) (mvT hZ (own_w hw 5 rfl)) (mvT hZ (own_w hw 6 rfl)) (by decide) (backOf (W := 4) (rmm1 l Z a0 hw [] p1 h101 n0 ZZ102 ) hZ (own_w hw 6 rfl) (own_w hw 5 rfl) (by decide) (by decide)) (g := (mkF m 9 #[.val (.int p0), .val (.int p1), .val (.int p2), .val (.int p3), .val (.int p4), .unset, .unset, .unset, .unset] [(.int p1), (.double (own_coord p0)), (.ref b101), (.ref b101)])) rfl (by rw [hml]; rfl) (argsL := [(.int p1)]) (rest := [(.double (own_coord p0)), (.ref b101), (.ref b101)]) (lenOf pd8 rfl) rfl (by show 2 * 0 + _ ≤ _; exact Nat.le_of_eq rfl) (hb hby at_9) (fun _ _ => ⟨rfl, P103_0, (by decide : 1 + 0 ≤ _), (by decide : 2 + 0 ≤ _)⟩)
  dsimp only [Pt.U, Pt.locs, Pt.cells, Pt.slots] at X104 l104 y104 z104 st104 hQ104
  subst l104 y104 z104
  obtain ⟨rfl, Nq104, P104_0⟩ := hQ104
  have N104 := Fr.app N103 Nq104
  obtain ⟨_, _, ⟨T105, L105, k105, n105⟩, -, X105, ⟨Lc105, hQ105, l105, y105, z105⟩, st105⟩ := X104.specialBack hx (y := (⟨"com/example/minisum/minisum/Point", "<init>", "(DD)V"⟩ : MethodName)) rfl hown (mvT hZ (own_w hw 7 rfl)) (mvT hZ (own_w hw 8 rfl)) (mvT hZ (own_w hw 9 rfl)) (by decide) (backOf (W := 1) (rmm2 l Z a0 hw [] b101 (own_coord p0) (own_coord p1) (.double 0) (.double 0) h101 n0 ZZ102 F_x_b101 F_y_b101 A101 g_b101 (own_coF _) (own_coF _)) hZ (own_w hw 9 rfl) (own_w hw 2 rfl) (by decide) (by decide)) (g := (mkF m 12 #[.val (.int p0), .val (.int p1), .val (.int p2), .val (.int p3), .val (.int p4), .unset, .unset, .unset, .unset] [(.double (own_coord p1)), (.double (own_coord p0)), (.ref b101), (.ref b101)])) rfl (by rw [hml]; rfl) (Steps.refl _) (a := b101) (argsL := [(.double (own_coord p0)), (.double (own_coord p1))]) (rest := [(.ref b101)]) (lenOf pd9 rfl) rfl (by show 2 * 0 + _ ≤ _; exact Nat.le_of_eq rfl) (hb hby at_12) (fun _ _ => ⟨rfl, P104_0, (by decide : 1 + 0 ≤ _), (by decide : 2 + 0 ≤ _)⟩)
  dsimp only [Pt.U, Pt.locs, Pt.cells, Pt.slots] at X105 l105 y105 z105 st105 hQ105
  subst l105 y105 z105
  obtain ⟨rfl, Nq105, P105_0, P105_1, P105_2, P105_3⟩ := hQ105
  have N105 := Fr.app N104 Nq105
  have ZZ106 : n0 ≤ T105.heap.size := Nat.le_trans ZZ102 P105_0.1
  have pre107 : ∀ t, Steps p.tables e below (T105.setTop (mkF m 21 #[.val (.int p0), .val (.int p1), .val (.int p2), .val (.int p3), .val (.int p4), .val (.ref b101), .unset, .unset, .unset] [(.int (p4 &&& (3 : Int32)))])) t → Steps p.tables e below (s₁.setTop (mkF m 0 #[.val (.int p0), .val (.int p1), .val (.int p2), .val (.int p3), .val (.int p4), .unset, .unset, .unset, .unset] [])) t := by
    intro t kt
    show own_S p e below s₁ m 0 #[oI p0, oI p1, oI p2, oI p3, oI p4, oU, oU, oU, oU] [] _
    refine st101 _ ?_
    show own_S p e below T101 m 3 #[oI p0, oI p1, oI p2, oI p3, oI p4, oU, oU, oU, oU] [(.ref b101)] _
    refine XS.dup X101.here hx rfl (hb hby at_3) rfl rfl ?_
    show own_S p e below T101 m 4 #[oI p0, oI p1, oI p2, oI p3, oI p4, oU, oU, oU, oU] [(.ref b101), (.ref b101)] _
    refine XS.iloadN X101.here hx rfl (hb hby at_4) rfl ?_
    show own_S p e below T101 m 5 #[oI p0, oI p1, oI p2, oI p3, oI p4, oU, oU, oU, oU] [(.int p0), (.ref b101), (.ref b101)] _
    refine st103 _ ?_
    show own_S p e below T103 m 8 #[oI p0, oI p1, oI p2, oI p3, oI p4, oU, oU, oU, oU] [(.double (own_coord p0)), (.ref b101), (.ref b101)] _
    refine XS.iloadN X103.here hx rfl (hb hby at_8) rfl ?_
    show own_S p e below T103 m 9 #[oI p0, oI p1, oI p2, oI p3, oI p4, oU, oU, oU, oU] [(.int p1), (.double (own_coord p0)), (.ref b101), (.ref b101)] _
    refine st104 _ ?_
    show own_S p e below T104 m 12 #[oI p0, oI p1, oI p2, oI p3, oI p4, oU, oU, oU, oU] [(.double (own_coord p1)), (.double (own_coord p0)), (.ref b101), (.ref b101)] _
    refine st105.trans ?_
    show own_S p e below T105 m 15 #[oI p0, oI p1, oI p2, oI p3, oI p4, oU, oU, oU, oU] [(.ref b101)] _
    refine XS.astore X105.here hx rfl (hb hby at_15) rfl rfl (l' := #[.val (.int p0), .val (.int p1), .val (.int p2), .val (.int p3), .val (.int p4), .val (.ref b101), .unset, .unset, .unset]) rfl ?_
    show own_S p e below T105 m 17 #[oI p0, oI p1, oI p2, oI p3, oI p4, oR b101, oU, oU, oU] [] _
    refine XS.iload X105.here hx rfl (hb hby at_17) rfl ?_
    show own_S p e below T105 m 19 #[oI p0, oI p1, oI p2, oI p3, oI p4, oR b101, oU, oU, oU] [(.int p4)] _
    refine XS.iconst X105.here hx rfl (hb hby at_19) ?_
    show own_S p e below T105 m 20 #[oI p0, oI p1, oI p2, oI p3, oI p4, oR b101, oU, oU, oU] [(.int 3), (.int p4)] _
    refine XS.iand X105.here hx rfl (hb hby at_20) rfl ?_
    exact kt
  rcases own_m4 p4 with hk | hk | hk | hk
  · skip
    obtain ⟨T108, h108, X108, e108, E108, A108, D108, -, st108⟩ := newO X105 hx hZ hown (own_w hw 0 rfl) (own_w hw 1 rfl) (own_w hw 2 rfl) rfl (g := (mkF m 28 #[.val (.int p0), .val (.int p1), .val (.int p2), .val (.int p3), .val (.int p4), .val (.ref b101), .val (.int 0), .unset, .unset] [])) rfl (hb hby at_28) (by decide) (by decide)
    obtain ⟨b108, g108⟩ : ∃ z, z = T105.heap.size := ⟨_, rfl⟩
    rw [← g108] at A108 D108 st108
    have g_b108 : n0 ≤ b108 := Nat.le_trans ZZ106 (Nat.le_of_eq g108.symm)
    have ZZ109 : n0 ≤ h108.size := Nat.le_trans ZZ106 E108.1
    have F_x_b108 : Fld Z h108 b108 "com/example/minisum/minisum/Point" "x" "D" (.double 0) := D108 (Or.inr (own_w hw 23 rfl)) (ty := .double) (by decide)
    have F_y_b108 : Fld Z h108 b108 "com/example/minisum/minisum/Point" "y" "D" (.double 0) := D108 (Or.inr (own_w hw 25 rfl)) (ty := .double) (by decide)
    obtain ⟨_, _, ⟨T110, L110, k110, n110⟩, -, X110, ⟨Lc110, hQ110, l110, y110, z110⟩, st110⟩ := Jvm.LawKit.callS X108 hx (y := (⟨"com/example/minisum/minisum/PointEqualsPinLaw", "coord", "(I)D"⟩ : MethodName)) hown (mvT hZ (own_w hw 3 rfl)) (mvT hZ (own_w hw 4 rfl)) (mvT hZ (own_w hw 5 rfl)) (mvT hZ (own_w hw 6 rfl)) (by decide) (backOf (W := 2) (rmm1 l Z a0 hw [] p2 h108 n0 ZZ109 ) hZ (own_w hw 6 rfl) (own_w hw 5 rfl) (by decide) (by decide)) (g := (mkF m 33 #[.val (.int p0), .val (.int p1), .val (.int p2), .val (.int p3), .val (.int p4), .val (.ref b101), .val (.int 0), .unset, .unset] [(.int p2), (.ref b108), (.ref b108)])) rfl (by rw [hml]; rfl) (argsL := [(.int p2)]) (rest := [(.ref b108), (.ref b108)]) (lenOf pd8 rfl) rfl (by show 2 * 0 + _ ≤ _; exact Nat.le_of_eq rfl) (hb hby at_33) (fun _ _ => ⟨rfl, e108, (by decide : 2 + 0 ≤ _), (by decide : 4 + 0 ≤ _)⟩)
    dsimp only [Pt.U, Pt.locs, Pt.cells, Pt.slots] at X110 l110 y110 z110 st110 hQ110
    subst l110 y110 z110
    obtain ⟨rfl, Nq110, P110_0⟩ := hQ110
    have N110 := Fr.app N105 Nq110
    obtain ⟨_, _, ⟨T111, L111, k111, n111⟩, -, X111, ⟨Lc111, hQ111, l111, y111, z111⟩, st111⟩ := Jvm.LawKit.callS X110 hx (y := (⟨"com/example/minisum/minisum/PointEqualsPinLaw", "coord", "(I)D"⟩ : MethodName)) hown (mvT hZ (own_w hw 3 rfl)) (mvT hZ (own_w hw 4 rfl)) (mvT hZ (own_w hw 5 rfl)) (mvT hZ (own_w hw 6 rfl)) (by decide) (backOf (W := 4) (rmm1 l Z a0 hw [] p3 h108 n0 ZZ109 ) hZ (own_w hw 6 rfl) (own_w hw 5 rfl) (by decide) (by decide)) (g := (mkF m 37 #[.val (.int p0), .val (.int p1), .val (.int p2), .val (.int p3), .val (.int p4), .val (.ref b101), .val (.int 0), .unset, .unset] [(.int p3), (.double (own_coord p2)), (.ref b108), (.ref b108)])) rfl (by rw [hml]; rfl) (argsL := [(.int p3)]) (rest := [(.double (own_coord p2)), (.ref b108), (.ref b108)]) (lenOf pd8 rfl) rfl (by show 2 * 0 + _ ≤ _; exact Nat.le_of_eq rfl) (hb hby at_37) (fun _ _ => ⟨rfl, P110_0, (by decide : 2 + 0 ≤ _), (by decide : 4 + 0 ≤ _)⟩)
    dsimp only [Pt.U, Pt.locs, Pt.cells, Pt.slots] at X111 l111 y111 z111 st111 hQ111
    subst l111 y111 z111
    obtain ⟨rfl, Nq111, P111_0⟩ := hQ111
    have N111 := Fr.app N110 Nq111
    obtain ⟨_, _, ⟨T112, L112, k112, n112⟩, -, X112, ⟨Lc112, hQ112, l112, y112, z112⟩, st112⟩ := X111.specialBack hx (y := (⟨"com/example/minisum/minisum/Point", "<init>", "(DD)V"⟩ : MethodName)) rfl hown (mvT hZ (own_w hw 7 rfl)) (mvT hZ (own_w hw 8 rfl)) (mvT hZ (own_w hw 9 rfl)) (by decide) (backOf (W := 1) (rmm2 l Z a0 hw [] b108 (own_coord p2) (own_coord p3) (.double 0) (.double 0) h108 n0 ZZ109 F_x_b108 F_y_b108 A108 g_b108 (own_coF _) (own_coF _)) hZ (own_w hw 9 rfl) (own_w hw 2 rfl) (by decide) (by decide)) (g := (mkF m 40 #[.val (.int p0), .val (.int p1), .val (.int p2), .val (.int p3), .val (.int p4), .val (.ref b101), .val (.int 0), .unset, .unset] [(.double (own_coord p3)), (.double (own_coord p2)), (.ref b108), (.ref b108)])) rfl (by rw [hml]; rfl) (Steps.refl _) (a := b108) (argsL := [(.double (own_coord p2)), (.double (own_coord p3))]) (rest := [(.ref b108)]) (lenOf pd9 rfl) rfl (by show 2 * 0 + _ ≤ _; exact Nat.le_of_eq rfl) (hb hby at_40) (fun _ _ => ⟨rfl, P111_0, (by decide : 2 + 0 ≤ _), (by decide : 4 + 0 ≤ _)⟩)
    dsimp only [Pt.U, Pt.locs, Pt.cells, Pt.slots] at X112 l112 y112 z112 st112 hQ112
    subst l112 y112 z112
    obtain ⟨rfl, Nq112, P112_0, P112_1, P112_2, P112_3⟩ := hQ112
    have N112 := Fr.app N111 Nq112
    have ZZ113 : n0 ≤ T112.heap.size := Nat.le_trans ZZ109 P112_0.1
    obtain ⟨_, _, ⟨T114, L114, k114, n114⟩, -, X114, ⟨Lc114, hQ114, l114, y114, z114⟩, st114⟩ := Jvm.LawKit.callS X112 hx (y := (⟨"com/example/minisum/minisum/PointEqualsPinLaw", "same", "(II)Z"⟩ : MethodName)) hown (mvT hZ (own_w hw 26 rfl)) (mvT hZ (own_w hw 27 rfl)) (mvT hZ (own_w hw 5 rfl)) (mvT hZ (own_w hw 28 rfl)) (by decide) (backOf (W := 0) (rmm6 l Z a0 hw [] p0 p2 T112.heap n0 ZZ113 ) hZ (own_w hw 28 rfl) (own_w hw 5 rfl) (by decide) (by decide)) (g := (mkF m 47 #[.val (.int p0), .val (.int p1), .val (.int p2), .val (.int p3), .val (.int p4), .val (.ref b101), .val (.int 0), .val (.ref b108), .unset] [(.int p2), (.int p0)])) rfl (by rw [hml]; rfl) (argsL := [(.int p0), (.int p2)]) (rest := []) (lenOf pd10 rfl) rfl (by show 2 * 0 + _ ≤ _; exact Nat.le_of_eq rfl) (hb hby at_47) (fun _ _ => ⟨rfl, rfl, (by decide : 2 + 0 ≤ _), (by decide : 4 + 0 ≤ _)⟩)
    dsimp only [Pt.U, Pt.locs, Pt.cells, Pt.slots] at X114 l114 y114 z114 st114 hQ114
    subst l114 y114 z114
    obtain ⟨rfl, Nq114, P114_0⟩ := hQ114
    have N114 := Fr.app N112 Nq114
    have pre115 : ∀ t, Steps p.tables e below (T114.setTop (mkF m 50 #[.val (.int p0), .val (.int p1), .val (.int p2), .val (.int p3), .val (.int p4), .val (.ref b101), .val (.int 0), .val (.ref b108), .unset] [(.int (own_same p0 p2))])) t → Steps p.tables e below (s₁.setTop (mkF m 0 #[.val (.int p0), .val (.int p1), .val (.int p2), .val (.int p3), .val (.int p4), .unset, .unset, .unset, .unset] [])) t := by
      intro t kt
      refine pre107 _ ?_
      show own_S p e below T105 m 21 #[oI p0, oI p1, oI p2, oI p3, oI p4, oR b101, oU, oU, oU] [(.int (p4 &&& (3 : Int32)))] _
      refine reI (hk : (p4 &&& (3 : Int32)) = (0 : Int32)) ?_
      show own_S p e below T105 m 21 #[oI p0, oI p1, oI p2, oI p3, oI p4, oR b101, oU, oU, oU] [(.int 0)] _
      refine XS.istore X105.here hx rfl (hb hby at_21) rfl (l' := #[.val (.int p0), .val (.int p1), .val (.int p2), .val (.int p3), .val (.int p4), .val (.ref b101), .val (.int 0), .unset, .unset]) rfl ?_
      show own_S p e below T105 m 23 #[oI p0, oI p1, oI p2, oI p3, oI p4, oR b101, oI 0, oU, oU] [] _
      refine XS.iload X105.here hx rfl (hb hby at_23) rfl ?_
      show own_S p e below T105 m 25 #[oI p0, oI p1, oI p2, oI p3, oI p4, oR b101, oI 0, oU, oU] [(.int 0)] _
      refine XS.ifNo X105.here hx rfl (hb hby at_25) rfl ((if0 _ _).trans (teq (by decide : (0 : Int32) = (0 : Int32))).2) ?_
      show own_S p e below T105 m 28 #[oI p0, oI p1, oI p2, oI p3, oI p4, oR b101, oI 0, oU, oU] [] _
      refine st108 _ ?_
      show own_S p e below T108 m 31 #[oI p0, oI p1, oI p2, oI p3, oI p4, oR b101, oI 0, oU, oU] [(.ref b108)] _
      refine XS.dup X108.here hx rfl (hb hby at_31) rfl rfl ?_
      show own_S p e below T108 m 32 #[oI p0, oI p1, oI p2, oI p3, oI p4, oR b101, oI 0, oU, oU] [(.ref b108), (.ref b108)] _
      refine XS.iloadN X108.here hx rfl (hb hby at_32) rfl ?_
      show own_S p e below T108 m 33 #[oI p0, oI p1, oI p2, oI p3, oI p4, oR b101, oI 0, oU, oU] [(.int p2), (.ref b108), (.ref b108)] _
      refine st110 _ ?_
      show own_S p e below T110 m 36 #[oI p0, oI p1, oI p2, oI p3, oI p4, oR b101, oI 0, oU, oU] [(.double (own_coord p2)), (.ref b108), (.ref b108)] _
      refine XS.iloadN X110.here hx rfl (hb hby at_36) rfl ?_
      show own_S p e below T110 m 37 #[oI p0, oI p1, oI p2, oI p3, oI p4, oR b101, oI 0, oU, oU] [(.int p3), (.double (own_coord p2)), (.ref b108), (.ref b108)] _
      refine st111 _ ?_
      show own_S p e below T111 m 40 #[oI p0, oI p1, oI p2, oI p3, oI p4, oR b101, oI 0, oU, oU] [(.double (own_coord p3)), (.double (own_coord p2)), (.ref b108), (.ref b108)] _
      refine st112.trans ?_
      show own_S p e below T112 m 43 #[oI p0, oI p1, oI p2, oI p3, oI p4, oR b101, oI 0, oU, oU] [(.ref b108)] _
      refine XS.astore X112.here hx rfl (hb hby at_43) rfl rfl (l' := #[.val (.int p0), .val (.int p1), .val (.int p2), .val (.int p3), .val (.int p4), .val (.ref b101), .val (.int 0), .val (.ref b108), .unset]) rfl ?_
      show own_S p e below T112 m 45 #[oI p0, oI p1, oI p2, oI p3, oI p4, oR b101, oI 0, oR b108, oU] [] _
      refine XS.iloadN X112.here hx rfl (hb hby at_45) rfl ?_
      show own_S p e below T112 m 46 #[oI p0, oI p1, oI p2, oI p3, oI p4, oR b101, oI 0, oR b108, oU] [(.int p0)] _
      refine XS.iloadN X112.here hx rfl (hb hby at_46) rfl ?_
      show own_S p e below T112 m 47 #[oI p0, oI p1, oI p2, oI p3, oI p4, oR b101, oI 0, oR b108, oU] [(.int p2), (.int p0)] _
      refine st114 _ ?_
      exact kt
    by_cases hsa : (own_same p0 p2) = (0 : Int32)
    · skip
      have Fc116 := ((P105_2.ext E108).keep P112_0 (ninS (Nat.ne_of_lt (Nat.lt_of_lt_of_le P105_1.lt (Nat.le_of_eq g108.symm))) nin0))
      have Fc117 := ((P105_3.ext E108).keep P112_0 (ninS (Nat.ne_of_lt (Nat.lt_of_lt_of_le P105_1.lt (Nat.le_of_eq g108.symm))) nin0))
      have Fc119 := ((P105_1.ext E108).keep P112_0)
      obtain ⟨cq118, kq118, q118a, q118b, q118c⟩ := isOf hZ P114_0 Fc119
      obtain ⟨_, _, ⟨T118, L118, k118, n118⟩, -, X118, ⟨Lc118, hQ118, l118, y118, z118⟩, st118⟩ := X114.virtualBack hx (y := (⟨"com/example/minisum/minisum/Point", "equals", "(Ljava/lang/Object;)Z"⟩ : MethodName)) (z := (⟨"com/example/minisum/minisum/Point", "equals", "(Ljava/lang/Object;)Z"⟩ : MethodName)) hown (mvT hZ (own_w hw 32 rfl)) (mvT hZ (own_w hw 33 rfl)) (notFace_of_selects (args := #[]) (mvT hZ (own_w hw 35 rfl))) (mvT hZ (own_w hw 35 rfl)) (mvT hZ (own_w hw 34 rfl)) (by decide) (backOf (W := 0) (rmm8 l Z a0 hw [] b101 b108 (own_coord p0) (own_coord p1) (own_coord p2) (own_coord p3) T112.heap n0 ZZ113 Fc116 Fc117 P112_2 P112_3 P112_1 ((own_coF _).noNaN) ((own_coF _).noNaN) ((own_coF _).noNaN) ((own_coF _).noNaN)) hZ (own_w hw 36 rfl) (own_w hw 2 rfl) (by decide) (by decide)) q118a q118c (g := (mkF m 115 #[.val (.int p0), .val (.int p1), .val (.int p2), .val (.int p3), .val (.int p4), .val (.ref b101), .val (.int 0), .val (.ref b108), .val (.int 0)] [(.ref b108), (.ref b101)])) rfl (by rw [hml]; rfl) (Steps.refl _) (argsL := [(.ref b108)]) (rest := []) (lenOf pd11 rfl) rfl (by show 2 * 0 + _ ≤ _; exact Nat.le_of_eq rfl) (hb hby at_115) (fun _ _ => ⟨rfl, P114_0, (by decide : 2 + 0 ≤ _), (by decide : 4 + 0 ≤ _)⟩)
      dsimp only [Pt.U, Pt.locs, Pt.cells, Pt.slots] at X118 l118 y118 z118 st118 hQ118
      subst l118 y118 z118
      obtain ⟨rfl, Nq118, P118_0⟩ := hQ118
      have N118 := Fr.app N114 Nq118
      obtain ⟨fs, hr, hrun, hended, hW, hsame⟩ := X118.leave (v := some (.int 1)) (fun h => by rw [Bd.returns] at h; cases h)
      refine ⟨_, _, pre0 _ (pre115 _ ?_), hrun, hended, _, _, rfl, ?_, ⟨_, rfl⟩, hW, hsame.mono (by decide) (by decide)⟩
      · show own_S p e below T114 m 50 #[oI p0, oI p1, oI p2, oI p3, oI p4, oR b101, oI 0, oR b108, oU] [(.int (own_same p0 p2))] _
        refine XS.ifYes X114.here hx rfl (pc0 := 50) (pc' := 65) rfl (hb hby at_50) rfl ((if0 _ _).trans (teq (hsa : (own_same p0 p2) = (0 : Int32))).1) (by decide) (by decide) ?_
        show own_S p e below T114 m 65 #[oI p0, oI p1, oI p2, oI p3, oI p4, oR b101, oI 0, oR b108, oU] [] _
        refine XS.iconst X114.here hx rfl (hb hby at_65) ?_
        show own_S p e below T114 m 66 #[oI p0, oI p1, oI p2, oI p3, oI p4, oR b101, oI 0, oR b108, oU] [(.int 0)] _
        refine XS.istore X114.here hx rfl (hb hby at_66) rfl (l' := #[.val (.int p0), .val (.int p1), .val (.int p2), .val (.int p3), .val (.int p4), .val (.ref b101), .val (.int 0), .val (.ref b108), .val (.int 0)]) rfl ?_
        show own_S p e below T114 m 68 #[oI p0, oI p1, oI p2, oI p3, oI p4, oR b101, oI 0, oR b108, oI 0] [] _
        refine XS.goto X114.here hx rfl (pc0 := 68) (pc' := 111) rfl (hb hby at_68) (by decide) (by decide) ?_
        show own_S p e below T114 m 111 #[oI p0, oI p1, oI p2, oI p3, oI p4, oR b101, oI 0, oR b108, oI 0] [] _
        refine XS.aload X114.here hx rfl (hb hby at_111) rfl rfl ?_
        show own_S p e below T114 m 113 #[oI p0, oI p1, oI p2, oI p3, oI p4, oR b101, oI 0, oR b108, oI 0] [(.ref b101)] _
        refine XS.aload X114.here hx rfl (hb hby at_113) rfl rfl ?_
        show own_S p e below T114 m 115 #[oI p0, oI p1, oI p2, oI p3, oI p4, oR b101, oI 0, oR b108, oI 0] [(.ref b108), (.ref b101)] _
        refine st118.trans ?_
        show own_S p e below T118 m 118 #[oI p0, oI p1, oI p2, oI p3, oI p4, oR b101, oI 0, oR b108, oI 0] [(.int (own_eq (own_coord p0) (own_coord p1) (own_coord p2) (own_coord p3)))] _
        refine reI (by rw [own_eqE ((own_coF _).noNaN) ((own_coF _).noNaN), if_neg (own_s0 hsa)] : (own_eq (own_coord p0) (own_coord p1) (own_coord p2) (own_coord p3)) = (0 : Int32)) ?_
        show own_S p e below T118 m 118 #[oI p0, oI p1, oI p2, oI p3, oI p4, oR b101, oI 0, oR b108, oI 0] [(.int 0)] _
        refine XS.iload X118.here hx rfl (hb hby at_118) rfl ?_
        show own_S p e below T118 m 120 #[oI p0, oI p1, oI p2, oI p3, oI p4, oR b101, oI 0, oR b108, oI 0] [(.int 0), (.int 0)] _
        refine XS.icmpNo X118.here hx rfl (hb hby at_120) rfl (teq (by decide : (0 : Int32) = (0 : Int32))).2 ?_
        show own_S p e below T118 m 123 #[oI p0, oI p1, oI p2, oI p3, oI p4, oR b101, oI 0, oR b108, oI 0] [] _
        refine XS.iconst X118.here hx rfl (hb hby at_123) ?_
        show own_S p e below T118 m 124 #[oI p0, oI p1, oI p2, oI p3, oI p4, oR b101, oI 0, oR b108, oI 0] [(.int 1)] _
        refine XS.goto X118.here hx rfl (pc0 := 124) (pc' := 128) rfl (hb hby at_124) (by decide) (by decide) ?_
        show own_S p e below T118 m 128 #[oI p0, oI p1, oI p2, oI p3, oI p4, oR b101, oI 0, oR b108, oI 0] [(.int 1)] _
        exact retN X118 hx (t := .boolean) Bd.returns (by simp) (hb hby at_128) hr
      · show Qm0 Z p0 p1 p2 p3 p4 ca cl h0 n0 _ T118.heap _
        rw [P118_0]
        exact ⟨rfl, N118⟩
    · skip
      obtain ⟨_, _, ⟨T120, L120, k120, n120⟩, -, X120, ⟨Lc120, hQ120, l120, y120, z120⟩, st120⟩ := Jvm.LawKit.callS X114 hx (y := (⟨"com/example/minisum/minisum/PointEqualsPinLaw", "same", "(II)Z"⟩ : MethodName)) hown (mvT hZ (own_w hw 26 rfl)) (mvT hZ (own_w hw 27 rfl)) (mvT hZ (own_w hw 5 rfl)) (mvT hZ (own_w hw 28 rfl)) (by decide) (backOf (W := 0) (rmm6 l Z a0 hw [] p1 p3 T112.heap n0 ZZ113 ) hZ (own_w hw 28 rfl) (own_w hw 5 rfl) (by decide) (by decide)) (g := (mkF m 55 #[.val (.int p0), .val (.int p1), .val (.int p2), .val (.int p3), .val (.int p4), .val (.ref b101), .val (.int 0), .val (.ref b108), .unset] [(.int p3), (.int p1)])) rfl (by rw [hml]; rfl) (argsL := [(.int p1), (.int p3)]) (rest := []) (lenOf pd10 rfl) rfl (by show 2 * 0 + _ ≤ _; exact Nat.le_of_eq rfl) (hb hby at_55) (fun _ _ => ⟨rfl, P114_0, (by decide : 2 + 0 ≤ _), (by decide : 4 + 0 ≤ _)⟩)
      dsimp only [Pt.U, Pt.locs, Pt.cells, Pt.slots] at X120 l120 y120 z120 st120 hQ120
      subst l120 y120 z120
      obtain ⟨rfl, Nq120, P120_0⟩ := hQ120
      have N120 := Fr.app N114 Nq120
      have pre121 : ∀ t, Steps p.tables e below (T120.setTop (mkF m 58 #[.val (.int p0), .val (.int p1), .val (.int p2), .val (.int p3), .val (.int p4), .val (.ref b101), .val (.int 0), .val (.ref b108), .unset] [(.int (own_same p1 p3))])) t → Steps p.tables e below (s₁.setTop (mkF m 0 #[.val (.int p0), .val (.int p1), .val (.int p2), .val (.int p3), .val (.int p4), .unset, .unset, .unset, .unset] [])) t := by
        intro t kt
        refine pre115 _ ?_
        show own_S p e below T114 m 50 #[oI p0, oI p1, oI p2, oI p3, oI p4, oR b101, oI 0, oR b108, oU] [(.int (own_same p0 p2))] _
        refine XS.ifNo X114.here hx rfl (hb hby at_50) rfl ((if0 _ _).trans (feq (hsa : ¬ ((own_same p0 p2) = (0 : Int32)))).1) ?_
        show own_S p e below T114 m 53 #[oI p0, oI p1, oI p2, oI p3, oI p4, oR b101, oI 0, oR b108, oU] [] _
        refine XS.iloadN X114.here hx rfl (hb hby at_53) rfl ?_
        show own_S p e below T114 m 54 #[oI p0, oI p1, oI p2, oI p3, oI p4, oR b101, oI 0, oR b108, oU] [(.int p1)] _
        refine XS.iloadN X114.here hx rfl (hb hby at_54) rfl ?_
        show own_S p e below T114 m 55 #[oI p0, oI p1, oI p2, oI p3, oI p4, oR b101, oI 0, oR b108, oU] [(.int p3), (.int p1)] _
        refine st120 _ ?_
        exact kt
      by_cases hsb : (own_same p1 p3) = (0 : Int32)
      · skip
        have Fc122 := ((P105_2.ext E108).keep P112_0 (ninS (Nat.ne_of_lt (Nat.lt_of_lt_of_le P105_1.lt (Nat.le_of_eq g108.symm))) nin0))
        have Fc123 := ((P105_3.ext E108).keep P112_0 (ninS (Nat.ne_of_lt (Nat.lt_of_lt_of_le P105_1.lt (Nat.le_of_eq g108.symm))) nin0))
        have Fc125 := ((P105_1.ext E108).keep P112_0)
        obtain ⟨cq124, kq124, q124a, q124b, q124c⟩ := isOf hZ P120_0 Fc125
        obtain ⟨_, _, ⟨T124, L124, k124, n124⟩, -, X124, ⟨Lc124, hQ124, l124, y124, z124⟩, st124⟩ := X120.virtualBack hx (y := (⟨"com/example/minisum/minisum/Point", "equals", "(Ljava/lang/Object;)Z"⟩ : MethodName)) (z := (⟨"com/example/minisum/minisum/Point", "equals", "(Ljava/lang/Object;)Z"⟩ : MethodName)) hown (mvT hZ (own_w hw 32 rfl)) (mvT hZ (own_w hw 33 rfl)) (notFace_of_selects (args := #[]) (mvT hZ (own_w hw 35 rfl))) (mvT hZ (own_w hw 35 rfl)) (mvT hZ (own_w hw 34 rfl)) (by decide) (backOf (W := 0) (rmm8 l Z a0 hw [] b101 b108 (own_coord p0) (own_coord p1) (own_coord p2) (own_coord p3) T112.heap n0 ZZ113 Fc122 Fc123 P112_2 P112_3 P112_1 ((own_coF _).noNaN) ((own_coF _).noNaN) ((own_coF _).noNaN) ((own_coF _).noNaN)) hZ (own_w hw 36 rfl) (own_w hw 2 rfl) (by decide) (by decide)) q124a q124c (g := (mkF m 115 #[.val (.int p0), .val (.int p1), .val (.int p2), .val (.int p3), .val (.int p4), .val (.ref b101), .val (.int 0), .val (.ref b108), .val (.int 0)] [(.ref b108), (.ref b101)])) rfl (by rw [hml]; rfl) (Steps.refl _) (argsL := [(.ref b108)]) (rest := []) (lenOf pd11 rfl) rfl (by show 2 * 0 + _ ≤ _; exact Nat.le_of_eq rfl) (hb hby at_115) (fun _ _ => ⟨rfl, P120_0, (by decide : 2 + 0 ≤ _), (by decide : 4 + 0 ≤ _)⟩)
        dsimp only [Pt.U, Pt.locs, Pt.cells, Pt.slots] at X124 l124 y124 z124 st124 hQ124
        subst l124 y124 z124
        obtain ⟨rfl, Nq124, P124_0⟩ := hQ124
        have N124 := Fr.app N120 Nq124
        obtain ⟨fs, hr, hrun, hended, hW, hsame⟩ := X124.leave (v := some (.int 1)) (fun h => by rw [Bd.returns] at h; cases h)
        refine ⟨_, _, pre0 _ (pre121 _ ?_), hrun, hended, _, _, rfl, ?_, ⟨_, rfl⟩, hW, hsame.mono (by decide) (by decide)⟩
        · show own_S p e below T120 m 58 #[oI p0, oI p1, oI p2, oI p3, oI p4, oR b101, oI 0, oR b108, oU] [(.int (own_same p1 p3))] _
          refine XS.ifYes X120.here hx rfl (pc0 := 58) (pc' := 65) rfl (hb hby at_58) rfl ((if0 _ _).trans (teq (hsb : (own_same p1 p3) = (0 : Int32))).1) (by decide) (by decide) ?_
          show own_S p e below T120 m 65 #[oI p0, oI p1, oI p2, oI p3, oI p4, oR b101, oI 0, oR b108, oU] [] _
          refine XS.iconst X120.here hx rfl (hb hby at_65) ?_
          show own_S p e below T120 m 66 #[oI p0, oI p1, oI p2, oI p3, oI p4, oR b101, oI 0, oR b108, oU] [(.int 0)] _
          refine XS.istore X120.here hx rfl (hb hby at_66) rfl (l' := #[.val (.int p0), .val (.int p1), .val (.int p2), .val (.int p3), .val (.int p4), .val (.ref b101), .val (.int 0), .val (.ref b108), .val (.int 0)]) rfl ?_
          show own_S p e below T120 m 68 #[oI p0, oI p1, oI p2, oI p3, oI p4, oR b101, oI 0, oR b108, oI 0] [] _
          refine XS.goto X120.here hx rfl (pc0 := 68) (pc' := 111) rfl (hb hby at_68) (by decide) (by decide) ?_
          show own_S p e below T120 m 111 #[oI p0, oI p1, oI p2, oI p3, oI p4, oR b101, oI 0, oR b108, oI 0] [] _
          refine XS.aload X120.here hx rfl (hb hby at_111) rfl rfl ?_
          show own_S p e below T120 m 113 #[oI p0, oI p1, oI p2, oI p3, oI p4, oR b101, oI 0, oR b108, oI 0] [(.ref b101)] _
          refine XS.aload X120.here hx rfl (hb hby at_113) rfl rfl ?_
          show own_S p e below T120 m 115 #[oI p0, oI p1, oI p2, oI p3, oI p4, oR b101, oI 0, oR b108, oI 0] [(.ref b108), (.ref b101)] _
          refine st124.trans ?_
          show own_S p e below T124 m 118 #[oI p0, oI p1, oI p2, oI p3, oI p4, oR b101, oI 0, oR b108, oI 0] [(.int (own_eq (own_coord p0) (own_coord p1) (own_coord p2) (own_coord p3)))] _
          refine reI (by rw [own_eqE ((own_coF _).noNaN) ((own_coF _).noNaN), if_pos (own_s1 hsa), if_neg (own_s0 hsb)] : (own_eq (own_coord p0) (own_coord p1) (own_coord p2) (own_coord p3)) = (0 : Int32)) ?_
          show own_S p e below T124 m 118 #[oI p0, oI p1, oI p2, oI p3, oI p4, oR b101, oI 0, oR b108, oI 0] [(.int 0)] _
          refine XS.iload X124.here hx rfl (hb hby at_118) rfl ?_
          show own_S p e below T124 m 120 #[oI p0, oI p1, oI p2, oI p3, oI p4, oR b101, oI 0, oR b108, oI 0] [(.int 0), (.int 0)] _
          refine XS.icmpNo X124.here hx rfl (hb hby at_120) rfl (teq (by decide : (0 : Int32) = (0 : Int32))).2 ?_
          show own_S p e below T124 m 123 #[oI p0, oI p1, oI p2, oI p3, oI p4, oR b101, oI 0, oR b108, oI 0] [] _
          refine XS.iconst X124.here hx rfl (hb hby at_123) ?_
          show own_S p e below T124 m 124 #[oI p0, oI p1, oI p2, oI p3, oI p4, oR b101, oI 0, oR b108, oI 0] [(.int 1)] _
          refine XS.goto X124.here hx rfl (pc0 := 124) (pc' := 128) rfl (hb hby at_124) (by decide) (by decide) ?_
          show own_S p e below T124 m 128 #[oI p0, oI p1, oI p2, oI p3, oI p4, oR b101, oI 0, oR b108, oI 0] [(.int 1)] _
          exact retN X124 hx (t := .boolean) Bd.returns (by simp) (hb hby at_128) hr
        · show Qm0 Z p0 p1 p2 p3 p4 ca cl h0 n0 _ T124.heap _
          rw [P124_0]
          exact ⟨rfl, N124⟩
      · skip
        have Fc126 := ((P105_2.ext E108).keep P112_0 (ninS (Nat.ne_of_lt (Nat.lt_of_lt_of_le P105_1.lt (Nat.le_of_eq g108.symm))) nin0))
        have Fc127 := ((P105_3.ext E108).keep P112_0 (ninS (Nat.ne_of_lt (Nat.lt_of_lt_of_le P105_1.lt (Nat.le_of_eq g108.symm))) nin0))
        have Fc129 := ((P105_1.ext E108).keep P112_0)
        obtain ⟨cq128, kq128, q128a, q128b, q128c⟩ := isOf hZ P120_0 Fc129
        obtain ⟨_, _, ⟨T128, L128, k128, n128⟩, -, X128, ⟨Lc128, hQ128, l128, y128, z128⟩, st128⟩ := X120.virtualBack hx (y := (⟨"com/example/minisum/minisum/Point", "equals", "(Ljava/lang/Object;)Z"⟩ : MethodName)) (z := (⟨"com/example/minisum/minisum/Point", "equals", "(Ljava/lang/Object;)Z"⟩ : MethodName)) hown (mvT hZ (own_w hw 32 rfl)) (mvT hZ (own_w hw 33 rfl)) (notFace_of_selects (args := #[]) (mvT hZ (own_w hw 35 rfl))) (mvT hZ (own_w hw 35 rfl)) (mvT hZ (own_w hw 34 rfl)) (by decide) (backOf (W := 0) (rmm8 l Z a0 hw [] b101 b108 (own_coord p0) (own_coord p1) (own_coord p2) (own_coord p3) T112.heap n0 ZZ113 Fc126 Fc127 P112_2 P112_3 P112_1 ((own_coF _).noNaN) ((own_coF _).noNaN) ((own_coF _).noNaN) ((own_coF _).noNaN)) hZ (own_w hw 36 rfl) (own_w hw 2 rfl) (by decide) (by decide)) q128a q128c (g := (mkF m 115 #[.val (.int p0), .val (.int p1), .val (.int p2), .val (.int p3), .val (.int p4), .val (.ref b101), .val (.int 0), .val (.ref b108), .val (.int 1)] [(.ref b108), (.ref b101)])) rfl (by rw [hml]; rfl) (Steps.refl _) (argsL := [(.ref b108)]) (rest := []) (lenOf pd11 rfl) rfl (by show 2 * 0 + _ ≤ _; exact Nat.le_of_eq rfl) (hb hby at_115) (fun _ _ => ⟨rfl, P120_0, (by decide : 2 + 0 ≤ _), (by decide : 4 + 0 ≤ _)⟩)
        dsimp only [Pt.U, Pt.locs, Pt.cells, Pt.slots] at X128 l128 y128 z128 st128 hQ128
        subst l128 y128 z128
        obtain ⟨rfl, Nq128, P128_0⟩ := hQ128
        have N128 := Fr.app N120 Nq128
        obtain ⟨fs, hr, hrun, hended, hW, hsame⟩ := X128.leave (v := some (.int 1)) (fun h => by rw [Bd.returns] at h; cases h)
        refine ⟨_, _, pre0 _ (pre121 _ ?_), hrun, hended, _, _, rfl, ?_, ⟨_, rfl⟩, hW, hsame.mono (by decide) (by decide)⟩
        · show own_S p e below T120 m 58 #[oI p0, oI p1, oI p2, oI p3, oI p4, oR b101, oI 0, oR b108, oU] [(.int (own_same p1 p3))] _
          refine XS.ifNo X120.here hx rfl (hb hby at_58) rfl ((if0 _ _).trans (feq (hsb : ¬ ((own_same p1 p3) = (0 : Int32)))).1) ?_
          show own_S p e below T120 m 61 #[oI p0, oI p1, oI p2, oI p3, oI p4, oR b101, oI 0, oR b108, oU] [] _
          refine XS.iconst X120.here hx rfl (hb hby at_61) ?_
          show own_S p e below T120 m 62 #[oI p0, oI p1, oI p2, oI p3, oI p4, oR b101, oI 0, oR b108, oU] [(.int 1)] _
          refine XS.goto X120.here hx rfl (pc0 := 62) (pc' := 66) rfl (hb hby at_62) (by decide) (by decide) ?_
          show own_S p e below T120 m 66 #[oI p0, oI p1, oI p2, oI p3, oI p4, oR b101, oI 0, oR b108, oU] [(.int 1)] _
          refine XS.istore X120.here hx rfl (hb hby at_66) rfl (l' := #[.val (.int p0), .val (.int p1), .val (.int p2), .val (.int p3), .val (.int p4), .val (.ref b101), .val (.int 0), .val (.ref b108), .val (.int 1)]) rfl ?_
          show own_S p e below T120 m 68 #[oI p0, oI p1, oI p2, oI p3, oI p4, oR b101, oI 0, oR b108, oI 1] [] _
          refine XS.goto X120.here hx rfl (pc0 := 68) (pc' := 111) rfl (hb hby at_68) (by decide) (by decide) ?_
          show own_S p e below T120 m 111 #[oI p0, oI p1, oI p2, oI p3, oI p4, oR b101, oI 0, oR b108, oI 1] [] _
          refine XS.aload X120.here hx rfl (hb hby at_111) rfl rfl ?_
          show own_S p e below T120 m 113 #[oI p0, oI p1, oI p2, oI p3, oI p4, oR b101, oI 0, oR b108, oI 1] [(.ref b101)] _
          refine XS.aload X120.here hx rfl (hb hby at_113) rfl rfl ?_
          show own_S p e below T120 m 115 #[oI p0, oI p1, oI p2, oI p3, oI p4, oR b101, oI 0, oR b108, oI 1] [(.ref b108), (.ref b101)] _
          refine st128.trans ?_
          show own_S p e below T128 m 118 #[oI p0, oI p1, oI p2, oI p3, oI p4, oR b101, oI 0, oR b108, oI 1] [(.int (own_eq (own_coord p0) (own_coord p1) (own_coord p2) (own_coord p3)))] _
          refine reI (by rw [own_eqE ((own_coF _).noNaN) ((own_coF _).noNaN), if_pos (own_s1 hsa), if_pos (own_s1 hsb)] : (own_eq (own_coord p0) (own_coord p1) (own_coord p2) (own_coord p3)) = (1 : Int32)) ?_
          show own_S p e below T128 m 118 #[oI p0, oI p1, oI p2, oI p3, oI p4, oR b101, oI 0, oR b108, oI 1] [(.int 1)] _
          refine XS.iload X128.here hx rfl (hb hby at_118) rfl ?_
          show own_S p e below T128 m 120 #[oI p0, oI p1, oI p2, oI p3, oI p4, oR b101, oI 0, oR b108, oI 1] [(.int 1), (.int 1)] _
          refine XS.icmpNo X128.here hx rfl (hb hby at_120) rfl (teq (by decide : (1 : Int32) = (1 : Int32))).2 ?_
          show own_S p e below T128 m 123 #[oI p0, oI p1, oI p2, oI p3, oI p4, oR b101, oI 0, oR b108, oI 1] [] _
          refine XS.iconst X128.here hx rfl (hb hby at_123) ?_
          show own_S p e below T128 m 124 #[oI p0, oI p1, oI p2, oI p3, oI p4, oR b101, oI 0, oR b108, oI 1] [(.int 1)] _
          refine XS.goto X128.here hx rfl (pc0 := 124) (pc' := 128) rfl (hb hby at_124) (by decide) (by decide) ?_
          show own_S p e below T128 m 128 #[oI p0, oI p1, oI p2, oI p3, oI p4, oR b101, oI 0, oR b108, oI 1] [(.int 1)] _
          exact retN X128 hx (t := .boolean) Bd.returns (by simp) (hb hby at_128) hr
        · show Qm0 Z p0 p1 p2 p3 p4 ca cl h0 n0 _ T128.heap _
          rw [P128_0]
          exact ⟨rfl, N128⟩
  · skip
    obtain ⟨cq130, kq130, q130a, q130b, q130c⟩ := isOf hZ rfl P105_1
    obtain ⟨_, _, ⟨T130, L130, k130, n130⟩, -, X130, ⟨Lc130, hQ130, l130, y130, z130⟩, st130⟩ := X105.virtualBack hx (y := (⟨"com/example/minisum/minisum/Point", "equals", "(Ljava/lang/Object;)Z"⟩ : MethodName)) (z := (⟨"com/example/minisum/minisum/Point", "equals", "(Ljava/lang/Object;)Z"⟩ : MethodName)) hown (mvT hZ (own_w hw 32 rfl)) (mvT hZ (own_w hw 33 rfl)) (notFace_of_selects (args := #[]) (mvT hZ (own_w hw 35 rfl))) (mvT hZ (own_w hw 35 rfl)) (mvT hZ (own_w hw 34 rfl)) (by decide) (backOf (W := 0) (rm8n l Z a0 hw [] b101 T105.heap n0 ZZ106 ) hZ (own_w hw 36 rfl) (own_w hw 2 rfl) (by decide) (by decide)) q130a q130c (g := (mkF m 115 #[.val (.int p0), .val (.int p1), .val (.int p2), .val (.int p3), .val (.int p4), .val (.ref b101), .val (.int 1), .val .null, .val (.int 0)] [.null, (.ref b101)])) rfl (by rw [hml]; rfl) (Steps.refl _) (argsL := [.null]) (rest := []) (lenOf pd11 rfl) rfl (by show 2 * 0 + _ ≤ _; exact Nat.le_of_eq rfl) (hb hby at_115) (fun _ _ => ⟨rfl, rfl, (by decide : 1 + 0 ≤ _), (by decide : 2 + 0 ≤ _)⟩)
    dsimp only [Pt.U, Pt.locs, Pt.cells, Pt.slots] at X130 l130 y130 z130 st130 hQ130
    subst l130 y130 z130
    obtain ⟨rfl, Nq130, P130_0⟩ := hQ130
    have N130 := Fr.app N105 Nq130
    obtain ⟨fs, hr, hrun, hended, hW, hsame⟩ := X130.leave (v := some (.int 1)) (fun h => by rw [Bd.returns] at h; cases h)
    refine ⟨_, _, pre0 _ (pre107 _ ?_), hrun, hended, _, _, rfl, ?_, ⟨_, rfl⟩, hW, hsame.mono (by decide) (by decide)⟩
    · show own_S p e below T105 m 21 #[oI p0, oI p1, oI p2, oI p3, oI p4, oR b101, oU, oU, oU] [(.int (p4 &&& (3 : Int32)))] _
      refine reI (hk : (p4 &&& (3 : Int32)) = (1 : Int32)) ?_
      show own_S p e below T105 m 21 #[oI p0, oI p1, oI p2, oI p3, oI p4, oR b101, oU, oU, oU] [(.int 1)] _
      refine XS.istore X105.here hx rfl (hb hby at_21) rfl (l' := #[.val (.int p0), .val (.int p1), .val (.int p2), .val (.int p3), .val (.int p4), .val (.ref b101), .val (.int 1), .unset, .unset]) rfl ?_
      show own_S p e below T105 m 23 #[oI p0, oI p1, oI p2, oI p3, oI p4, oR b101, oI 1, oU, oU] [] _
      refine XS.iload X105.here hx rfl (hb hby at_23) rfl ?_
      show own_S p e below T105 m 25 #[oI p0, oI p1, oI p2, oI p3, oI p4, oR b101, oI 1, oU, oU] [(.int 1)] _
      refine XS.ifYes X105.here hx rfl (pc0 := 25) (pc' := 71) rfl (hb hby at_25) rfl ((if0 _ _).trans (feq (by decide : ¬ ((1 : Int32) = (0 : Int32)))).2) (by decide) (by decide) ?_
      show own_S p e below T105 m 71 #[oI p0, oI p1, oI p2, oI p3, oI p4, oR b101, oI 1, oU, oU] [] _
      refine XS.iload X105.here hx rfl (hb hby at_71) rfl ?_
      show own_S p e below T105 m 73 #[oI p0, oI p1, oI p2, oI p3, oI p4, oR b101, oI 1, oU, oU] [(.int 1)] _
      refine XS.iconst X105.here hx rfl (hb hby at_73) ?_
      show own_S p e below T105 m 74 #[oI p0, oI p1, oI p2, oI p3, oI p4, oR b101, oI 1, oU, oU] [(.int 1), (.int 1)] _
      refine XS.icmpNo X105.here hx rfl (hb hby at_74) rfl (teq (by decide : (1 : Int32) = (1 : Int32))).2 ?_
      show own_S p e below T105 m 77 #[oI p0, oI p1, oI p2, oI p3, oI p4, oR b101, oI 1, oU, oU] [] _
      refine XS.aconstNull X105.here hx rfl (hb hby at_77) ?_
      show own_S p e below T105 m 78 #[oI p0, oI p1, oI p2, oI p3, oI p4, oR b101, oI 1, oU, oU] [.null] _
      refine XS.astore X105.here hx rfl (hb hby at_78) rfl rfl (l' := #[.val (.int p0), .val (.int p1), .val (.int p2), .val (.int p3), .val (.int p4), .val (.ref b101), .val (.int 1), .val .null, .unset]) rfl ?_
      show own_S p e below T105 m 80 #[oI p0, oI p1, oI p2, oI p3, oI p4, oR b101, oI 1, .val .null, oU] [] _
      refine XS.iconst X105.here hx rfl (hb hby at_80) ?_
      show own_S p e below T105 m 81 #[oI p0, oI p1, oI p2, oI p3, oI p4, oR b101, oI 1, .val .null, oU] [(.int 0)] _
      refine XS.istore X105.here hx rfl (hb hby at_81) rfl (l' := #[.val (.int p0), .val (.int p1), .val (.int p2), .val (.int p3), .val (.int p4), .val (.ref b101), .val (.int 1), .val .null, .val (.int 0)]) rfl ?_
      show own_S p e below T105 m 83 #[oI p0, oI p1, oI p2, oI p3, oI p4, oR b101, oI 1, .val .null, oI 0] [] _
      refine XS.goto X105.here hx rfl (pc0 := 83) (pc' := 111) rfl (hb hby at_83) (by decide) (by decide) ?_
      show own_S p e below T105 m 111 #[oI p0, oI p1, oI p2, oI p3, oI p4, oR b101, oI 1, .val .null, oI 0] [] _
      refine XS.aload X105.here hx rfl (hb hby at_111) rfl rfl ?_
      show own_S p e below T105 m 113 #[oI p0, oI p1, oI p2, oI p3, oI p4, oR b101, oI 1, .val .null, oI 0] [(.ref b101)] _
      refine XS.aload X105.here hx rfl (hb hby at_113) rfl rfl ?_
      show own_S p e below T105 m 115 #[oI p0, oI p1, oI p2, oI p3, oI p4, oR b101, oI 1, .val .null, oI 0] [.null, (.ref b101)] _
      refine st130.trans ?_
      show own_S p e below T130 m 118 #[oI p0, oI p1, oI p2, oI p3, oI p4, oR b101, oI 1, .val .null, oI 0] [(.int 0)] _
      refine XS.iload X130.here hx rfl (hb hby at_118) rfl ?_
      show own_S p e below T130 m 120 #[oI p0, oI p1, oI p2, oI p3, oI p4, oR b101, oI 1, .val .null, oI 0] [(.int 0), (.int 0)] _
      refine XS.icmpNo X130.here hx rfl (hb hby at_120) rfl (teq (by decide : (0 : Int32) = (0 : Int32))).2 ?_
      show own_S p e below T130 m 123 #[oI p0, oI p1, oI p2, oI p3, oI p4, oR b101, oI 1, .val .null, oI 0] [] _
      refine XS.iconst X130.here hx rfl (hb hby at_123) ?_
      show own_S p e below T130 m 124 #[oI p0, oI p1, oI p2, oI p3, oI p4, oR b101, oI 1, .val .null, oI 0] [(.int 1)] _
      refine XS.goto X130.here hx rfl (pc0 := 124) (pc' := 128) rfl (hb hby at_124) (by decide) (by decide) ?_
      show own_S p e below T130 m 128 #[oI p0, oI p1, oI p2, oI p3, oI p4, oR b101, oI 1, .val .null, oI 0] [(.int 1)] _
      exact retN X130 hx (t := .boolean) Bd.returns (by simp) (hb hby at_128) hr
    · show Qm0 Z p0 p1 p2 p3 p4 ca cl h0 n0 _ T130.heap _
      rw [P130_0]
      exact ⟨rfl, N130⟩
  · skip
    have Ol131 := ((hOld.ext E101).keep P105_0 (allS g_b101 all0))
    obtain ⟨_, _, ⟨T132, L132, k132, n132⟩, -, X132, ⟨Lc132, hQ132, l132, y132, z132⟩, st132⟩ := Jvm.LawKit.callS X105 hx (y := (⟨"java/lang/Integer", "valueOf", "(I)Ljava/lang/Integer;"⟩ : MethodName)) hown (mvT hZ (own_w hw 51 rfl)) (mvT hZ (own_w hw 52 rfl)) (mvT hZ (own_w hw 53 rfl)) (mvT hZ (own_w hw 54 rfl)) (by decide) (backOf (W := 0) (rmm12 l Z a0 hw [] p2 ca cl T105.heap n0 ZZ106 Ol131 S_high S_cache hBx) hZ (own_w hw 54 rfl) (own_w hw 53 rfl) (by decide) (by decide)) (g := (mkF m 93 #[.val (.int p0), .val (.int p1), .val (.int p2), .val (.int p3), .val (.int p4), .val (.ref b101), .val (.int 2), .unset, .unset] [(.int p2)])) rfl (by rw [hml]; rfl) (argsL := [(.int p2)]) (rest := []) (lenOf pd12 rfl) rfl (by show 2 * 0 + _ ≤ _; exact Nat.le_of_eq rfl) (hb hby at_93) (fun _ _ => ⟨rfl, rfl, (by decide : 1 + 1 ≤ _), (by decide : 2 + 1 ≤ _)⟩)
    dsimp only [Pt.U, Pt.locs, Pt.cells, Pt.slots] at X132 l132 y132 z132 st132 hQ132
    subst l132 y132 z132
    obtain ⟨b_132, rfl, Nq132, P132_0, P132_1⟩ := hQ132
    have N132 := Fr.app N105 Nq132
    have ZZ133 : n0 ≤ T132.heap.size := Nat.le_trans ZZ106 P132_0.1
    obtain ⟨cq134, kq134, q134a, q134b, q134c⟩ := isOf hZ rfl (P105_1.keep P132_0)
    obtain ⟨_, _, ⟨T134, L134, k134, n134⟩, -, X134, ⟨Lc134, hQ134, l134, y134, z134⟩, st134⟩ := X132.virtualBack hx (y := (⟨"com/example/minisum/minisum/Point", "equals", "(Ljava/lang/Object;)Z"⟩ : MethodName)) (z := (⟨"com/example/minisum/minisum/Point", "equals", "(Ljava/lang/Object;)Z"⟩ : MethodName)) hown (mvT hZ (own_w hw 32 rfl)) (mvT hZ (own_w hw 33 rfl)) (notFace_of_selects (args := #[]) (mvT hZ (own_w hw 35 rfl))) (mvT hZ (own_w hw 35 rfl)) (mvT hZ (own_w hw 34 rfl)) (by decide) (backOf (W := 0) (rm8i l Z a0 hw [] b101 b_132 T132.heap n0 ZZ133 P132_1) hZ (own_w hw 36 rfl) (own_w hw 2 rfl) (by decide) (by decide)) q134a q134c (g := (mkF m 115 #[.val (.int p0), .val (.int p1), .val (.int p2), .val (.int p3), .val (.int p4), .val (.ref b101), .val (.int 2), .val (.ref b_132), .val (.int 0)] [(.ref b_132), (.ref b101)])) rfl (by rw [hml]; rfl) (Steps.refl _) (argsL := [(.ref b_132)]) (rest := []) (lenOf pd11 rfl) rfl (by show 2 * 0 + _ ≤ _; exact Nat.le_of_eq rfl) (hb hby at_115) (fun _ _ => ⟨rfl, rfl, (by decide : 2 + 0 ≤ _), (by decide : 3 + 0 ≤ _)⟩)
    dsimp only [Pt.U, Pt.locs, Pt.cells, Pt.slots] at X134 l134 y134 z134 st134 hQ134
    subst l134 y134 z134
    obtain ⟨rfl, Nq134, P134_0⟩ := hQ134
    have N134 := Fr.app N132 Nq134
    obtain ⟨fs, hr, hrun, hended, hW, hsame⟩ := X134.leave (v := some (.int 1)) (fun h => by rw [Bd.returns] at h; cases h)
    refine ⟨_, _, pre0 _ (pre107 _ ?_), hrun, hended, _, _, rfl, ?_, ⟨_, rfl⟩, hW, hsame.mono (by decide) (by decide)⟩
    · show own_S p e below T105 m 21 #[oI p0, oI p1, oI p2, oI p3, oI p4, oR b101, oU, oU, oU] [(.int (p4 &&& (3 : Int32)))] _
      refine reI (hk : (p4 &&& (3 : Int32)) = (2 : Int32)) ?_
      show own_S p e below T105 m 21 #[oI p0, oI p1, oI p2, oI p3, oI p4, oR b101, oU, oU, oU] [(.int 2)] _
      refine XS.istore X105.here hx rfl (hb hby at_21) rfl (l' := #[.val (.int p0), .val (.int p1), .val (.int p2), .val (.int p3), .val (.int p4), .val (.ref b101), .val (.int 2), .unset, .unset]) rfl ?_
      show own_S p e below T105 m 23 #[oI p0, oI p1, oI p2, oI p3, oI p4, oR b101, oI 2, oU, oU] [] _
      refine XS.iload X105.here hx rfl (hb hby at_23) rfl ?_
      show own_S p e below T105 m 25 #[oI p0, oI p1, oI p2, oI p3, oI p4, oR b101, oI 2, oU, oU] [(.int 2)] _
      refine XS.ifYes X105.here hx rfl (pc0 := 25) (pc' := 71) rfl (hb hby at_25) rfl ((if0 _ _).trans (feq (by decide : ¬ ((2 : Int32) = (0 : Int32)))).2) (by decide) (by decide) ?_
      show own_S p e below T105 m 71 #[oI p0, oI p1, oI p2, oI p3, oI p4, oR b101, oI 2, oU, oU] [] _
      refine XS.iload X105.here hx rfl (hb hby at_71) rfl ?_
      show own_S p e below T105 m 73 #[oI p0, oI p1, oI p2, oI p3, oI p4, oR b101, oI 2, oU, oU] [(.int 2)] _
      refine XS.iconst X105.here hx rfl (hb hby at_73) ?_
      show own_S p e below T105 m 74 #[oI p0, oI p1, oI p2, oI p3, oI p4, oR b101, oI 2, oU, oU] [(.int 1), (.int 2)] _
      refine XS.icmpYes X105.here hx rfl (pc0 := 74) (pc' := 86) rfl (hb hby at_74) rfl (feq (by decide : ¬ ((2 : Int32) = (1 : Int32)))).2 (by decide) (by decide) ?_
      show own_S p e below T105 m 86 #[oI p0, oI p1, oI p2, oI p3, oI p4, oR b101, oI 2, oU, oU] [] _
      refine XS.iload X105.here hx rfl (hb hby at_86) rfl ?_
      show own_S p e below T105 m 88 #[oI p0, oI p1, oI p2, oI p3, oI p4, oR b101, oI 2, oU, oU] [(.int 2)] _
      refine XS.iconst X105.here hx rfl (hb hby at_88) ?_
      show own_S p e below T105 m 89 #[oI p0, oI p1, oI p2, oI p3, oI p4, oR b101, oI 2, oU, oU] [(.int 2), (.int 2)] _
      refine XS.icmpNo X105.here hx rfl (hb hby at_89) rfl (teq (by decide : (2 : Int32) = (2 : Int32))).2 ?_
      show own_S p e below T105 m 92 #[oI p0, oI p1, oI p2, oI p3, oI p4, oR b101, oI 2, oU, oU] [] _
      refine XS.iloadN X105.here hx rfl (hb hby at_92) rfl ?_
      show own_S p e below T105 m 93 #[oI p0, oI p1, oI p2, oI p3, oI p4, oR b101, oI 2, oU, oU] [(.int p2)] _
      refine st132 _ ?_
      show own_S p e below T132 m 96 #[oI p0, oI p1, oI p2, oI p3, oI p4, oR b101, oI 2, oU, oU] [(.ref b_132)] _
      refine XS.astore X132.here hx rfl (hb hby at_96) rfl rfl (l' := #[.val (.int p0), .val (.int p1), .val (.int p2), .val (.int p3), .val (.int p4), .val (.ref b101), .val (.int 2), .val (.ref b_132), .unset]) rfl ?_
      show own_S p e below T132 m 98 #[oI p0, oI p1, oI p2, oI p3, oI p4, oR b101, oI 2, oR b_132, oU] [] _
      refine XS.iconst X132.here hx rfl (hb hby at_98) ?_
      show own_S p e below T132 m 99 #[oI p0, oI p1, oI p2, oI p3, oI p4, oR b101, oI 2, oR b_132, oU] [(.int 0)] _
      refine XS.istore X132.here hx rfl (hb hby at_99) rfl (l' := #[.val (.int p0), .val (.int p1), .val (.int p2), .val (.int p3), .val (.int p4), .val (.ref b101), .val (.int 2), .val (.ref b_132), .val (.int 0)]) rfl ?_
      show own_S p e below T132 m 101 #[oI p0, oI p1, oI p2, oI p3, oI p4, oR b101, oI 2, oR b_132, oI 0] [] _
      refine XS.goto X132.here hx rfl (pc0 := 101) (pc' := 111) rfl (hb hby at_101) (by decide) (by decide) ?_
      show own_S p e below T132 m 111 #[oI p0, oI p1, oI p2, oI p3, oI p4, oR b101, oI 2, oR b_132, oI 0] [] _
      refine XS.aload X132.here hx rfl (hb hby at_111) rfl rfl ?_
      show own_S p e below T132 m 113 #[oI p0, oI p1, oI p2, oI p3, oI p4, oR b101, oI 2, oR b_132, oI 0] [(.ref b101)] _
      refine XS.aload X132.here hx rfl (hb hby at_113) rfl rfl ?_
      show own_S p e below T132 m 115 #[oI p0, oI p1, oI p2, oI p3, oI p4, oR b101, oI 2, oR b_132, oI 0] [(.ref b_132), (.ref b101)] _
      refine st134.trans ?_
      show own_S p e below T134 m 118 #[oI p0, oI p1, oI p2, oI p3, oI p4, oR b101, oI 2, oR b_132, oI 0] [(.int 0)] _
      refine XS.iload X134.here hx rfl (hb hby at_118) rfl ?_
      show own_S p e below T134 m 120 #[oI p0, oI p1, oI p2, oI p3, oI p4, oR b101, oI 2, oR b_132, oI 0] [(.int 0), (.int 0)] _
      refine XS.icmpNo X134.here hx rfl (hb hby at_120) rfl (teq (by decide : (0 : Int32) = (0 : Int32))).2 ?_
      show own_S p e below T134 m 123 #[oI p0, oI p1, oI p2, oI p3, oI p4, oR b101, oI 2, oR b_132, oI 0] [] _
      refine XS.iconst X134.here hx rfl (hb hby at_123) ?_
      show own_S p e below T134 m 124 #[oI p0, oI p1, oI p2, oI p3, oI p4, oR b101, oI 2, oR b_132, oI 0] [(.int 1)] _
      refine XS.goto X134.here hx rfl (pc0 := 124) (pc' := 128) rfl (hb hby at_124) (by decide) (by decide) ?_
      show own_S p e below T134 m 128 #[oI p0, oI p1, oI p2, oI p3, oI p4, oR b101, oI 2, oR b_132, oI 0] [(.int 1)] _
      exact retN X134 hx (t := .boolean) Bd.returns (by simp) (hb hby at_128) hr
    · show Qm0 Z p0 p1 p2 p3 p4 ca cl h0 n0 _ T134.heap _
      rw [P134_0]
      exact ⟨rfl, N134⟩
  · skip
    obtain ⟨cq135, kq135, q135a, q135b, q135c⟩ := isOf hZ rfl P105_1
    obtain ⟨_, _, ⟨T135, L135, k135, n135⟩, -, X135, ⟨Lc135, hQ135, l135, y135, z135⟩, st135⟩ := X105.virtualBack hx (y := (⟨"com/example/minisum/minisum/Point", "equals", "(Ljava/lang/Object;)Z"⟩ : MethodName)) (z := (⟨"com/example/minisum/minisum/Point", "equals", "(Ljava/lang/Object;)Z"⟩ : MethodName)) hown (mvT hZ (own_w hw 32 rfl)) (mvT hZ (own_w hw 33 rfl)) (notFace_of_selects (args := #[]) (mvT hZ (own_w hw 35 rfl))) (mvT hZ (own_w hw 35 rfl)) (mvT hZ (own_w hw 34 rfl)) (by decide) (backOf (W := 0) (rmm8 l Z a0 hw [] b101 b101 (own_coord p0) (own_coord p1) (own_coord p0) (own_coord p1) T105.heap n0 ZZ106 P105_2 P105_3 P105_2 P105_3 P105_1 ((own_coF _).noNaN) ((own_coF _).noNaN) ((own_coF _).noNaN) ((own_coF _).noNaN)) hZ (own_w hw 36 rfl) (own_w hw 2 rfl) (by decide) (by decide)) q135a q135c (g := (mkF m 115 #[.val (.int p0), .val (.int p1), .val (.int p2), .val (.int p3), .val (.int p4), .val (.ref b101), .val (.int 3), .val (.ref b101), .val (.int 1)] [(.ref b101), (.ref b101)])) rfl (by rw [hml]; rfl) (Steps.refl _) (argsL := [(.ref b101)]) (rest := []) (lenOf pd11 rfl) rfl (by show 2 * 0 + _ ≤ _; exact Nat.le_of_eq rfl) (hb hby at_115) (fun _ _ => ⟨rfl, rfl, (by decide : 1 + 0 ≤ _), (by decide : 2 + 0 ≤ _)⟩)
    dsimp only [Pt.U, Pt.locs, Pt.cells, Pt.slots] at X135 l135 y135 z135 st135 hQ135
    subst l135 y135 z135
    obtain ⟨rfl, Nq135, P135_0⟩ := hQ135
    have N135 := Fr.app N105 Nq135
    obtain ⟨fs, hr, hrun, hended, hW, hsame⟩ := X135.leave (v := some (.int 1)) (fun h => by rw [Bd.returns] at h; cases h)
    refine ⟨_, _, pre0 _ (pre107 _ ?_), hrun, hended, _, _, rfl, ?_, ⟨_, rfl⟩, hW, hsame.mono (by decide) (by decide)⟩
    · show own_S p e below T105 m 21 #[oI p0, oI p1, oI p2, oI p3, oI p4, oR b101, oU, oU, oU] [(.int (p4 &&& (3 : Int32)))] _
      refine reI (hk : (p4 &&& (3 : Int32)) = (3 : Int32)) ?_
      show own_S p e below T105 m 21 #[oI p0, oI p1, oI p2, oI p3, oI p4, oR b101, oU, oU, oU] [(.int 3)] _
      refine XS.istore X105.here hx rfl (hb hby at_21) rfl (l' := #[.val (.int p0), .val (.int p1), .val (.int p2), .val (.int p3), .val (.int p4), .val (.ref b101), .val (.int 3), .unset, .unset]) rfl ?_
      show own_S p e below T105 m 23 #[oI p0, oI p1, oI p2, oI p3, oI p4, oR b101, oI 3, oU, oU] [] _
      refine XS.iload X105.here hx rfl (hb hby at_23) rfl ?_
      show own_S p e below T105 m 25 #[oI p0, oI p1, oI p2, oI p3, oI p4, oR b101, oI 3, oU, oU] [(.int 3)] _
      refine XS.ifYes X105.here hx rfl (pc0 := 25) (pc' := 71) rfl (hb hby at_25) rfl ((if0 _ _).trans (feq (by decide : ¬ ((3 : Int32) = (0 : Int32)))).2) (by decide) (by decide) ?_
      show own_S p e below T105 m 71 #[oI p0, oI p1, oI p2, oI p3, oI p4, oR b101, oI 3, oU, oU] [] _
      refine XS.iload X105.here hx rfl (hb hby at_71) rfl ?_
      show own_S p e below T105 m 73 #[oI p0, oI p1, oI p2, oI p3, oI p4, oR b101, oI 3, oU, oU] [(.int 3)] _
      refine XS.iconst X105.here hx rfl (hb hby at_73) ?_
      show own_S p e below T105 m 74 #[oI p0, oI p1, oI p2, oI p3, oI p4, oR b101, oI 3, oU, oU] [(.int 1), (.int 3)] _
      refine XS.icmpYes X105.here hx rfl (pc0 := 74) (pc' := 86) rfl (hb hby at_74) rfl (feq (by decide : ¬ ((3 : Int32) = (1 : Int32)))).2 (by decide) (by decide) ?_
      show own_S p e below T105 m 86 #[oI p0, oI p1, oI p2, oI p3, oI p4, oR b101, oI 3, oU, oU] [] _
      refine XS.iload X105.here hx rfl (hb hby at_86) rfl ?_
      show own_S p e below T105 m 88 #[oI p0, oI p1, oI p2, oI p3, oI p4, oR b101, oI 3, oU, oU] [(.int 3)] _
      refine XS.iconst X105.here hx rfl (hb hby at_88) ?_
      show own_S p e below T105 m 89 #[oI p0, oI p1, oI p2, oI p3, oI p4, oR b101, oI 3, oU, oU] [(.int 2), (.int 3)] _
      refine XS.icmpYes X105.here hx rfl (pc0 := 89) (pc' := 104) rfl (hb hby at_89) rfl (feq (by decide : ¬ ((3 : Int32) = (2 : Int32)))).2 (by decide) (by decide) ?_
      show own_S p e below T105 m 104 #[oI p0, oI p1, oI p2, oI p3, oI p4, oR b101, oI 3, oU, oU] [] _
      refine XS.aload X105.here hx rfl (hb hby at_104) rfl rfl ?_
      show own_S p e below T105 m 106 #[oI p0, oI p1, oI p2, oI p3, oI p4, oR b101, oI 3, oU, oU] [(.ref b101)] _
      refine XS.astore X105.here hx rfl (hb hby at_106) rfl rfl (l' := #[.val (.int p0), .val (.int p1), .val (.int p2), .val (.int p3), .val (.int p4), .val (.ref b101), .val (.int 3), .val (.ref b101), .unset]) rfl ?_
      show own_S p e below T105 m 108 #[oI p0, oI p1, oI p2, oI p3, oI p4, oR b101, oI 3, oR b101, oU] [] _
      refine XS.iconst X105.here hx rfl (hb hby at_108) ?_
      show own_S p e below T105 m 109 #[oI p0, oI p1, oI p2, oI p3, oI p4, oR b101, oI 3, oR b101, oU] [(.int 1)] _
      refine XS.istore X105.here hx rfl (hb hby at_109) rfl (l' := #[.val (.int p0), .val (.int p1), .val (.int p2), .val (.int p3), .val (.int p4), .val (.ref b101), .val (.int 3), .val (.ref b101), .val (.int 1)]) rfl ?_
      show own_S p e below T105 m 111 #[oI p0, oI p1, oI p2, oI p3, oI p4, oR b101, oI 3, oR b101, oI 1] [] _
      refine XS.aload X105.here hx rfl (hb hby at_111) rfl rfl ?_
      show own_S p e below T105 m 113 #[oI p0, oI p1, oI p2, oI p3, oI p4, oR b101, oI 3, oR b101, oI 1] [(.ref b101)] _
      refine XS.aload X105.here hx rfl (hb hby at_113) rfl rfl ?_
      show own_S p e below T105 m 115 #[oI p0, oI p1, oI p2, oI p3, oI p4, oR b101, oI 3, oR b101, oI 1] [(.ref b101), (.ref b101)] _
      refine st135.trans ?_
      show own_S p e below T135 m 118 #[oI p0, oI p1, oI p2, oI p3, oI p4, oR b101, oI 3, oR b101, oI 1] [(.int (own_eq (own_coord p0) (own_coord p1) (own_coord p0) (own_coord p1)))] _
      refine reI (own_eqS ((own_coF _).noNaN) ((own_coF _).noNaN) : (own_eq (own_coord p0) (own_coord p1) (own_coord p0) (own_coord p1)) = (1 : Int32)) ?_
      show own_S p e below T135 m 118 #[oI p0, oI p1, oI p2, oI p3, oI p4, oR b101, oI 3, oR b101, oI 1] [(.int 1)] _
      refine XS.iload X135.here hx rfl (hb hby at_118) rfl ?_
      show own_S p e below T135 m 120 #[oI p0, oI p1, oI p2, oI p3, oI p4, oR b101, oI 3, oR b101, oI 1] [(.int 1), (.int 1)] _
      refine XS.icmpNo X135.here hx rfl (hb hby at_120) rfl (teq (by decide : (1 : Int32) = (1 : Int32))).2 ?_
      show own_S p e below T135 m 123 #[oI p0, oI p1, oI p2, oI p3, oI p4, oR b101, oI 3, oR b101, oI 1] [] _
      refine XS.iconst X135.here hx rfl (hb hby at_123) ?_
      show own_S p e below T135 m 124 #[oI p0, oI p1, oI p2, oI p3, oI p4, oR b101, oI 3, oR b101, oI 1] [(.int 1)] _
      refine XS.goto X135.here hx rfl (pc0 := 124) (pc' := 128) rfl (hb hby at_124) (by decide) (by decide) ?_
      show own_S p e below T135 m 128 #[oI p0, oI p1, oI p2, oI p3, oI p4, oR b101, oI 3, oR b101, oI 1] [(.int 1)] _
      exact retN X135 hx (t := .boolean) Bd.returns (by simp) (hb hby at_128) hr
    · show Qm0 Z p0 p1 p2 p3 p4 ca cl h0 n0 _ T135.heap _
      rw [P135_0]
      exact ⟨rfl, N135⟩
set_option maxRecDepth 65536 in
set_option maxHeartbeats 40000000 in
theorem comes_1 {Post : Tables → Env → Array Value → State → Outcome → State → Prop} (hpost : ∀ tb e args s v u, (limb_1_1.after args s (.returned v) u = true ∧ limb_1_2.after args s (.returned v) u = true ∧ True) → FrameEnd s (.returned v) u (Jvm.fieldLocs frame_1_writes args s ++ Jvm.arrayLocs frame_1_arrays args s ++ Jvm.staticLocs frame_1_statics s) 16 128 → Post tb e args s (.returned v) u) :
    ArmFor flags0 classFile x code maxLocals ret World_1 tables_1 room_1 Calls_1 rest_1 Pre_1 Post := by
  intro l hfl _ _ p e ha hc hk s m args below hf hA hF happ hP
  obtain ⟨hcalls, hrest, hpre⟩ := hP
  obtain ⟨-, -, -, hnamed, -, -, -, hat⟩ := (Spec.applies_iff hf).mp happ
  obtain ⟨hg, hn⟩ := and_e (Cond.before_iff.mp (show (Jvm.Cond.and given_1 narrow_1).before args s = true from hpre))
  obtain ⟨hcount, hg0⟩ := and_e hg
  obtain ⟨hv0, hg1⟩ := and_e hg0
  obtain ⟨hv1, hg2⟩ := and_e hg1
  obtain ⟨hv2, hg3⟩ := and_e hg2
  obtain ⟨hv3, hg4⟩ := and_e hg3
  obtain ⟨w0, w1, w2, w3, w4, rfl⟩ : ∃ w0 w1 w2 w3 w4 : Value, args = #[w0, w1, w2, w3, w4] := by
    have hs : args.size = 5 := by simpa [Cond.value, given_1] using hcount
    obtain ⟨L⟩ := args
    match L, hs with
    | [w0, w1, w2, w3, w4], _ => exact ⟨w0, w1, w2, w3, w4, rfl⟩
  have hw := fun d (hd : d ∈ tables_1) => atoms_spec (ws := Jvm.Cond.code x code maxLocals ret :: tables_1) hat d (List.mem_cons_of_mem _ hd)
  have hfit : Fit s := fun {y c} hc i hi => by
    obtain ⟨ha, rfl⟩ := Array.getElem?_eq_some_iff.mp hc
    have q := List.all_eq_true.mp ((Array.all_eq_true_iff_forall_mem.mp hF) _ (Array.getElem_mem ha)) i (List.mem_range.mpr hi)
    simpa [Array.getElem?_eq_getElem hi] using q
  obtain ⟨hsets, hown0⟩ := atoms_of _ (rest_1_c_eq ▸ (show rest_1_c.before _ s = true from hrest))
  obtain ⟨i0, ei0⟩ := is_v hv0
  obtain rfl : w0 = (.int i0) := Option.some.inj ei0
  obtain ⟨i1, ei1⟩ := is_v hv1
  obtain rfl : w1 = (.int i1) := Option.some.inj ei1
  obtain ⟨i2, ei2⟩ := is_v hv2
  obtain rfl : w2 = (.int i2) := Option.some.inj ei2
  obtain ⟨i3, ei3⟩ := is_v hv3
  obtain rfl : w3 = (.int i3) := Option.some.inj ei3
  obtain ⟨i4, ei4⟩ := is_v hg4
  obtain rfl : w4 = (.int i4) := Option.some.inj ei4
  have hz4 := Cond.before_iff.mp (hsets _ (List.mem_of_getElem? (i := 4) rfl))
  obtain ⟨ca, eca⟩ := arr_v hz4
  obtain ⟨cl, hAr⟩ := Arr.start eca hz4
  obtain ⟨hl1, hl2⟩ := Jvm.Free.IntBox.length_fwd (hsets _ (List.mem_of_getElem? (i := 6) rfl)) eca hAr.1 hAr.2.1 hAr.2.2
  have hSh := Sta.start (eqv_i (Term.int_eval (127)) (Cond.before_iff.mp (hsets _ (List.mem_of_getElem? (i := 3) rfl)))) (Or.inl (hsets _ (List.mem_of_getElem? (i := 1) rfl)))
  have hSc := Sta.start eca (Or.inr ⟨hw _ (List.mem_of_getElem? (i := 56) rfl), (hsets _ (List.mem_of_getElem? (i := 2) rfl))⟩)
  have hBx : Bxs s ca cl "java/lang/Integer" "I" (256 : Int32) (fun j => .int (j - (128 : Int32))) := Bxs.start (fun idx => eca) hAr hl1 hl2 (by decide) (Cond.before_iff.mp (hsets _ (List.mem_of_getElem? (i := 7) rfl))) (fun X j hj hq => eqv_i (by simp [Term.eval]; exact (Jvm.RoadKit.back32 hj).1) hq)
  obtain ⟨n, o, h1, h2, h3, _, L, rfl, ⟨rfl, N⟩, hq⟩ := rmm0 l s _ hw tables_1 i0 i1 i2 i3 i4 ca cl s.heap s.heap.size (Nat.le_refl _) (Old.start s) hSh hSc hBx p e ha hc hk s m _ below hf ((Spec.applies_iff_loose hf).mp happ).1 ⟨rfl, State.Warmed39.refl s, rfl⟩ trivial
  refine ⟨n, _, h1, h2, h3, hpost _ _ _ _ _ _ ⟨Cond.after_iff.mpr rfl, Cond.after_iff.mpr (eq_i res_at (Term.int_eval (1)) rfl), trivial⟩ ⟨hq.1, hq.2.1, (hq.2.2.sift fun y hy => Or.inr (N y hy)).mono (by decide) (by decide)⟩⟩
theorem main_1_1 : Claimed_1_1 := comes_1 fun _ _ _ _ _ _ h hF => ⟨h.1, hF⟩
theorem main_1_2 : Claimed_1_2 := comes_1 fun _ _ _ _ _ _ h hF => ⟨h.2.1, hF⟩
end Jvm.Pilot.@@N@@
namespace Jvm.Pilot.@@N@@
open Jvm Jvm.ClassFile Sem Op Lib Jvm.Free Jvm.Stand Jvm.Pilot.@@N@@.Jvm.D
/-! MADE BY PROGRAM (witnessworld.py) out of the Statement's table words and the real class files: 18 classes; the members and pool entries that the words name. The judged class is class 1, her method 1. -/
namespace start1
open Jvm.ClassFile
def u (s : String) : CpInfo := .utf8 (stringToUtf16 s)
/-- a pool by its gaps: so many unusable entries, then the entry; so many at the end -/
def gap : Nat → List CpInfo → List CpInfo
  | 0, r => r
  | n + 1, r => .unusable :: gap n r
def poolList (es : List (Nat × CpInfo)) (last : Nat) : List CpInfo := es.foldr (fun e r => gap e.1 (e.2 :: r)) (gap last [])
def pool (es : List (Nat × CpInfo)) (last : Nat) : Array CpInfo := ⟨poolList es last⟩
def fileOf (pool : Array CpInfo) (this : Nat) (attrs : Array Attribute := #[]) (ms : Array MethodInfo := #[]) (fl : Nat := 33) (sup : Nat := 0) (ifs : Array Nat := #[]) (fds : Array FieldInfo := #[]) : ClassFile where
  minorVersion := 0
  majorVersion := 65
  constantPool := pool
  accessFlags := fl
  thisClass := this
  superClass := sup
  interfaces := ifs
  fields := fds
  methods := ms
  attributes := attrs
def plain (name : String) (sup : Option ClassId) : Class where
  name := name
  kind := .ordinary
  loader := none
  accessFlags := 33
  super := sup
  interfaces := #[]
  cf := none
  fields := #[]
  methods := #[]
  instanceTypes := #[]
  staticTypes := #[]
  resolved := #[]
  callSites := []
  init := .initialized
  statics := none
  mirror := none

def pool0 : Array CpInfo := pool [(5, u "<init>"), (0, u "()V"), (1, .class_ 10), (1, u "java/lang/Object")] 113

def k0c0 : Code := { maxStack := 0, maxLocals := 1, code := object_method_1_code, exceptionTable := #[], attributes := #[] }
def k0m0 : Method := { name := "<init>", desc := "()V", sig := { parameters := [], returnType := none }, accessFlags := 1, code := some k0c0 }
/-- java/lang/Object -/
def k0 : Class := { plain "java/lang/Object" none with
  accessFlags := 33
  interfaces := #[]
  cf := some (fileOf pool0 8 #[] #[{ accessFlags := 1, nameIndex := 5, descriptorIndex := 6, attributes := #[] }] 33 0 #[] #[])
  fields := #[]
  methods := #[k0m0]
  instanceTypes := #[]
  staticTypes := #[]
  resolved := Array.replicate 124 none
  statics := none }

def pool1 : Array CpInfo := pool [(2, .class_ 4), (1, u "java/lang/Object"), (0, u "<init>"), (0, u "()V"), (0, .class_ 8), (0, u "com/example/minisum/minisum/Point"), (0, .methodref 10 11), (0, .class_ 12), (0, .nameAndType 13 14), (0, u "com/example/minisum/minisum/PointEqualsPinLaw"), (0, u "coord"), (0, u "(I)D"), (0, .methodref 7 16), (0, .nameAndType 5 17), (0, u "(DD)V"), (0, .methodref 10 19), (0, .nameAndType 20 21), (0, u "same"), (0, u "(II)Z"), (0, .methodref 23 24), (0, .class_ 25), (0, .nameAndType 26 27), (0, u "java/lang/Integer"), (0, u "valueOf"), (0, u "(I)Ljava/lang/Integer;"), (0, .methodref 7 29), (0, .nameAndType 30 31), (0, u "equals"), (0, u "(Ljava/lang/Object;)Z"), (0, .methodref 10 33), (0, .nameAndType 34 35), (0, u "value"), (0, u "(I)J"), (0, .methodref 10 37), (0, .nameAndType 38 39), (0, u "negZero"), (0, u "(I)Z"), (2, u "law"), (0, u "(IIIII)Z")] 3

def k1m0 : Method := { name := "<init>", desc := "()V", sig := { parameters := [], returnType := none }, accessFlags := 1, code := none }
def k1c1 : Code := { maxStack := 6, maxLocals := 9, code := code, exceptionTable := #[], attributes := #[] }
def k1m1 : Method := { name := "law", desc := "(IIIII)Z", sig := { parameters := [.int, .int, .int, .int, .int], returnType := some .boolean }, accessFlags := 9, code := some k1c1 }
def k1c2 : Code := { maxStack := 2, maxLocals := 4, code := method_3_code, exceptionTable := #[], attributes := #[] }
def k1m2 : Method := { name := "coord", desc := "(I)D", sig := { parameters := [.int], returnType := some .double }, accessFlags := 10, code := some k1c2 }
def k1c3 : Code := { maxStack := 2, maxLocals := 3, code := method_4_code, exceptionTable := #[], attributes := #[] }
def k1m3 : Method := { name := "value", desc := "(I)J", sig := { parameters := [.int], returnType := some .long }, accessFlags := 10, code := some k1c3 }
def k1c4 : Code := { maxStack := 2, maxLocals := 1, code := method_5_code, exceptionTable := #[], attributes := #[] }
def k1m4 : Method := { name := "negZero", desc := "(I)Z", sig := { parameters := [.int], returnType := some .boolean }, accessFlags := 10, code := some k1c4 }
def k1c5 : Code := { maxStack := 4, maxLocals := 2, code := method_6_code, exceptionTable := #[], attributes := #[] }
def k1m5 : Method := { name := "same", desc := "(II)Z", sig := { parameters := [.int, .int], returnType := some .boolean }, accessFlags := 10, code := some k1c5 }
/-- com/example/minisum/minisum/PointEqualsPinLaw -/
def k1 : Class := { plain "com/example/minisum/minisum/PointEqualsPinLaw" (some 0) with
  accessFlags := 49
  interfaces := #[]
  cf := some (fileOf pool1 10 #[] #[{ accessFlags := 1, nameIndex := 5, descriptorIndex := 6, attributes := #[] }, { accessFlags := 9, nameIndex := 42, descriptorIndex := 43, attributes := #[] }, { accessFlags := 10, nameIndex := 13, descriptorIndex := 14, attributes := #[] }, { accessFlags := 10, nameIndex := 34, descriptorIndex := 35, attributes := #[] }, { accessFlags := 10, nameIndex := 38, descriptorIndex := 39, attributes := #[] }, { accessFlags := 10, nameIndex := 20, descriptorIndex := 21, attributes := #[] }] 49 2 #[] #[])
  fields := #[]
  methods := #[k1m0, k1m1, k1m2, k1m3, k1m4, k1m5]
  instanceTypes := #[]
  staticTypes := #[]
  resolved := Array.replicate 47 none
  statics := none }

def pool2 : Array CpInfo := pool [(1, .methodref 2 3), (0, .class_ 4), (0, .nameAndType 5 6), (0, u "java/lang/Object"), (0, u "<init>"), (0, u "()V"), (0, .methodref 8 9), (0, .class_ 10), (0, .nameAndType 11 12), (0, u "java/lang/Double"), (0, u "isFinite"), (0, u "(D)Z"), (9, .fieldref 23 24), (0, .class_ 25), (0, .nameAndType 26 27), (0, u "com/example/minisum/minisum/Point"), (0, u "x"), (0, u "D"), (0, .fieldref 23 29), (0, .nameAndType 30 27), (0, u "y"), (9, .methodref 8 41), (0, .nameAndType 42 43), (0, u "compare"), (0, u "(DD)I"), (5, u "(DD)V"), (8, u "equals"), (0, u "(Ljava/lang/Object;)Z")] 24

def k2c0 : Code := { maxStack := 6, maxLocals := 5, code := prog_17_method_1_code, exceptionTable := #[], attributes := #[] }
def k2m0 : Method := { name := "<init>", desc := "(DD)V", sig := { parameters := [.double, .double], returnType := none }, accessFlags := 1, code := some k2c0 }
def k2c1 : Code := { maxStack := 4, maxLocals := 2, code := prog_17_method_5_code, exceptionTable := #[], attributes := #[] }
def k2m1 : Method := { name := "equals", desc := "(Ljava/lang/Object;)Z", sig := { parameters := [(.object "java/lang/Object")], returnType := some .boolean }, accessFlags := 1, code := some k2c1 }
/-- com/example/minisum/minisum/Point -/
def k2 : Class := { plain "com/example/minisum/minisum/Point" (some 0) with
  accessFlags := 49
  interfaces := #[]
  cf := some (fileOf pool2 23 #[] #[{ accessFlags := 1, nameIndex := 5, descriptorIndex := 49, attributes := #[] }, { accessFlags := 1, nameIndex := 58, descriptorIndex := 59, attributes := #[] }] 49 2 #[] #[{ accessFlags := 18, nameIndex := 26, descriptorIndex := 27, attributes := #[] }, { accessFlags := 18, nameIndex := 30, descriptorIndex := 27, attributes := #[] }])
  fields := #[{ name := "x", type := .double, accessFlags := 18, slot := 0, constantValue := 0 }, { name := "y", type := .double, accessFlags := 18, slot := 1, constantValue := 0 }]
  methods := #[k2m0, k2m1]
  instanceTypes := #[.double, .double]
  staticTypes := #[]
  resolved := Array.replicate 84 none
  statics := none }

def pool3 : Array CpInfo := pool [(1, .class_ 2), (0, u "java/io/Serializable"), (0, .class_ 4), (0, u "java/lang/Object")] 2

/-- java/io/Serializable -/
def k3 : Class := { plain "java/io/Serializable" (some 0) with
  accessFlags := 1537
  interfaces := #[]
  cf := some (fileOf pool3 1 #[] #[] 1537 3 #[] #[])
  fields := #[]
  methods := #[]
  instanceTypes := #[]
  staticTypes := #[]
  resolved := Array.replicate 7 none
  statics := none }

def pool4 : Array CpInfo := pool [(1, .methodref 2 3), (0, .class_ 4), (0, .nameAndType 5 6), (0, u "java/lang/Object"), (0, u "<init>"), (0, u "()V"), (1, .class_ 10), (1, u "java/lang/Number"), (2, .class_ 14), (0, u "java/io/Serializable"), (0, u "serialVersionUID"), (0, u "J")] 20

def k4c0 : Code := { maxStack := 1, maxLocals := 1, code := jdk_18_method_1_code, exceptionTable := #[], attributes := #[] }
def k4m0 : Method := { name := "<init>", desc := "()V", sig := { parameters := [], returnType := none }, accessFlags := 1, code := some k4c0 }
/-- java/lang/Number -/
def k4 : Class := { plain "java/lang/Number" (some 0) with
  accessFlags := 1057
  interfaces := #[3]
  cf := some (fileOf pool4 8 #[] #[{ accessFlags := 1, nameIndex := 5, descriptorIndex := 6, attributes := #[] }] 1057 2 #[13] #[{ accessFlags := 26, nameIndex := 15, descriptorIndex := 16, attributes := #[] }])
  fields := #[{ name := "serialVersionUID", type := .long, accessFlags := 26, slot := 0, constantValue := 0 }]
  methods := #[k4m0]
  instanceTypes := #[]
  staticTypes := #[.long]
  resolved := Array.replicate 37 none
  statics := none }

def pool5 : Array CpInfo := pool [(1, .class_ 2), (0, u "java/lang/Comparable"), (0, .class_ 4), (0, u "java/lang/Object")] 7

/-- java/lang/Comparable -/
def k5 : Class := { plain "java/lang/Comparable" (some 0) with
  accessFlags := 1537
  interfaces := #[]
  cf := some (fileOf pool5 1 #[] #[] 1537 3 #[] #[])
  fields := #[]
  methods := #[]
  instanceTypes := #[]
  staticTypes := #[]
  resolved := Array.replicate 12 none
  statics := none }

def pool6 : Array CpInfo := pool [(1, .class_ 2), (0, u "java/lang/constant/Constable"), (0, .class_ 4), (0, u "java/lang/Object")] 6

/-- java/lang/constant/Constable -/
def k6 : Class := { plain "java/lang/constant/Constable" (some 0) with
  accessFlags := 1537
  interfaces := #[]
  cf := some (fileOf pool6 1 #[] #[] 1537 3 #[] #[])
  fields := #[]
  methods := #[]
  instanceTypes := #[]
  staticTypes := #[]
  resolved := Array.replicate 11 none
  statics := none }

def pool7 : Array CpInfo := pool [(1, .class_ 2), (0, u "java/lang/constant/ConstantDesc"), (0, .class_ 4), (0, u "java/lang/Object")] 32

/-- java/lang/constant/ConstantDesc -/
def k7 : Class := { plain "java/lang/constant/ConstantDesc" (some 0) with
  accessFlags := 1537
  interfaces := #[]
  cf := some (fileOf pool7 1 #[] #[] 1537 3 #[] #[])
  fields := #[]
  methods := #[]
  instanceTypes := #[]
  staticTypes := #[]
  resolved := Array.replicate 37 none
  statics := none }

def pool8 : Array CpInfo := pool [(1, .class_ 2), (0, u "java/lang/Double"), (10, u "isFinite"), (0, u "(D)Z"), (8, .class_ 25), (1, u "java/lang/Math"), (12, .methodref 23 39), (0, .nameAndType 40 41), (0, u "abs"), (0, u "(D)D"), (4, .methodref 1 47), (0, .nameAndType 48 49), (0, u "doubleToLongBits"), (0, u "(D)J"), (61, .double 9218868437227405311), (2, .class_ 116), (1, u "java/lang/Number"), (3, u "value"), (0, u "D"), (0, .methodref 1 123), (0, .nameAndType 124 14), (0, u "isNaN"), (9, .methodref 1 135), (0, .nameAndType 136 49), (0, u "doubleToRawLongBits"), (4, u "compare"), (0, u "(DD)I"), (30, u "TYPE"), (0, u "Ljava/lang/Class;"), (0, .class_ 176), (0, u "java/lang/Comparable"), (0, .class_ 178), (0, u "java/lang/constant/Constable"), (0, .class_ 180), (0, u "java/lang/constant/ConstantDesc"), (0, u "POSITIVE_INFINITY"), (3, u "NEGATIVE_INFINITY"), (2, u "NaN"), (2, u "MAX_VALUE"), (0, u "MIN_NORMAL"), (0, u "MIN_VALUE"), (2, u "SIZE"), (0, u "I"), (1, u "PRECISION"), (1, u "MAX_EXPONENT"), (1, u "MIN_EXPONENT"), (1, u "BYTES"), (3, u "serialVersionUID"), (0, u "J")] 79

def k8c0 : Code := { maxStack := 4, maxLocals := 2, code := jdk_117_method_6_code, exceptionTable := #[], attributes := #[] }
def k8m0 : Method := { name := "isNaN", desc := "(D)Z", sig := { parameters := [.double], returnType := some .boolean }, accessFlags := 9, code := some k8c0 }
def k8c1 : Code := { maxStack := 4, maxLocals := 2, code := jdk_117_method_8_code, exceptionTable := #[], attributes := #[] }
def k8m1 : Method := { name := "isFinite", desc := "(D)Z", sig := { parameters := [.double], returnType := some .boolean }, accessFlags := 9, code := some k8c1 }
def k8c2 : Code := { maxStack := 2, maxLocals := 2, code := jdk_117_method_23_code, exceptionTable := #[], attributes := #[] }
def k8m2 : Method := { name := "doubleToLongBits", desc := "(D)J", sig := { parameters := [.double], returnType := some .long }, accessFlags := 9, code := some k8c2 }
def k8m3 : Method := { name := "doubleToRawLongBits", desc := "(D)J", sig := { parameters := [.double], returnType := some .long }, accessFlags := 265, code := none }
def k8c4 : Code := { maxStack := 4, maxLocals := 8, code := jdk_117_method_27_code, exceptionTable := #[], attributes := #[] }
def k8m4 : Method := { name := "compare", desc := "(DD)I", sig := { parameters := [.double, .double], returnType := some .int }, accessFlags := 9, code := some k8c4 }
/-- java/lang/Double -/
def k8 : Class := { plain "java/lang/Double" (some 4) with
  accessFlags := 49
  interfaces := #[5, 6, 7]
  cf := some (fileOf pool8 1 #[] #[{ accessFlags := 9, nameIndex := 124, descriptorIndex := 14, attributes := #[] }, { accessFlags := 9, nameIndex := 13, descriptorIndex := 14, attributes := #[] }, { accessFlags := 9, nameIndex := 48, descriptorIndex := 49, attributes := #[] }, { accessFlags := 265, nameIndex := 136, descriptorIndex := 49, attributes := #[] }, { accessFlags := 9, nameIndex := 141, descriptorIndex := 142, attributes := #[] }] 49 114 #[175, 177, 179] #[{ accessFlags := 25, nameIndex := 181, descriptorIndex := 121, attributes := #[] }, { accessFlags := 25, nameIndex := 185, descriptorIndex := 121, attributes := #[] }, { accessFlags := 25, nameIndex := 188, descriptorIndex := 121, attributes := #[] }, { accessFlags := 25, nameIndex := 191, descriptorIndex := 121, attributes := #[] }, { accessFlags := 25, nameIndex := 192, descriptorIndex := 121, attributes := #[] }, { accessFlags := 25, nameIndex := 193, descriptorIndex := 121, attributes := #[] }, { accessFlags := 25, nameIndex := 196, descriptorIndex := 197, attributes := #[] }, { accessFlags := 25, nameIndex := 199, descriptorIndex := 197, attributes := #[] }, { accessFlags := 25, nameIndex := 201, descriptorIndex := 197, attributes := #[] }, { accessFlags := 25, nameIndex := 203, descriptorIndex := 197, attributes := #[] }, { accessFlags := 25, nameIndex := 205, descriptorIndex := 197, attributes := #[] }, { accessFlags := 25, nameIndex := 173, descriptorIndex := 174, attributes := #[] }, { accessFlags := 18, nameIndex := 120, descriptorIndex := 121, attributes := #[] }, { accessFlags := 26, nameIndex := 209, descriptorIndex := 210, attributes := #[] }])
  fields := #[{ name := "POSITIVE_INFINITY", type := .double, accessFlags := 25, slot := 0, constantValue := 0 }, { name := "NEGATIVE_INFINITY", type := .double, accessFlags := 25, slot := 1, constantValue := 0 }, { name := "NaN", type := .double, accessFlags := 25, slot := 2, constantValue := 0 }, { name := "MAX_VALUE", type := .double, accessFlags := 25, slot := 3, constantValue := 0 }, { name := "MIN_NORMAL", type := .double, accessFlags := 25, slot := 4, constantValue := 0 }, { name := "MIN_VALUE", type := .double, accessFlags := 25, slot := 5, constantValue := 0 }, { name := "SIZE", type := .int, accessFlags := 25, slot := 6, constantValue := 0 }, { name := "PRECISION", type := .int, accessFlags := 25, slot := 7, constantValue := 0 }, { name := "MAX_EXPONENT", type := .int, accessFlags := 25, slot := 8, constantValue := 0 }, { name := "MIN_EXPONENT", type := .int, accessFlags := 25, slot := 9, constantValue := 0 }, { name := "BYTES", type := .int, accessFlags := 25, slot := 10, constantValue := 0 }, { name := "TYPE", type := (.object "java/lang/Class"), accessFlags := 25, slot := 11, constantValue := 0 }, { name := "value", type := .double, accessFlags := 18, slot := 0, constantValue := 0 }, { name := "serialVersionUID", type := .long, accessFlags := 26, slot := 12, constantValue := 0 }]
  methods := #[k8m0, k8m1, k8m2, k8m3, k8m4]
  instanceTypes := #[.double]
  staticTypes := #[.double, .double, .double, .double, .double, .double, .int, .int, .int, .int, .int, (.object "java/lang/Class"), .long]
  resolved := Array.replicate 290 none
  statics := none }

def pool9 : Array CpInfo := pool [(1, .class_ 2), (0, u "java/lang/Math"), (1, .class_ 6), (1, u "java/lang/Object"), (0, u "<init>"), (0, u "()V"), (5, u "(D)D"), (83, .class_ 100), (1, u "java/lang/Math$RandomNumberGeneratorHolder"), (23, u "abs"), (47, u "negativeZeroFloatBits"), (0, u "J"), (2, u "negativeZeroDoubleBits"), (68, u "$assertionsDisabled"), (0, u "Z"), (91, u "twoToTheDoubleScaleDown"), (0, u "D"), (4, u "twoToTheDoubleScaleUp"), (9, u "E"), (3, u "PI"), (2, u "TAU"), (2, u "DEGREES_TO_RADIANS"), (0, u "RADIANS_TO_DEGREES")] 94

def k9m0 : Method := { name := "<init>", desc := "()V", sig := { parameters := [], returnType := none }, accessFlags := 2, code := none }
def k9c1 : Code := { maxStack := 4, maxLocals := 2, code := jdk_29_method_64_code, exceptionTable := #[], attributes := #[] }
def k9m1 : Method := { name := "abs", desc := "(D)D", sig := { parameters := [.double], returnType := some .double }, accessFlags := 9, code := some k9c1 }
/-- java/lang/Math -/
def k9 : Class := { plain "java/lang/Math" (some 0) with
  accessFlags := 49
  interfaces := #[]
  cf := some (fileOf pool9 1 #[.nestMembers #[98]] #[{ accessFlags := 2, nameIndex := 7, descriptorIndex := 8, attributes := #[] }, { accessFlags := 9, nameIndex := 124, descriptorIndex := 14, attributes := #[] }] 49 4 #[] #[{ accessFlags := 25, nameIndex := 354, descriptorIndex := 339, attributes := #[] }, { accessFlags := 25, nameIndex := 358, descriptorIndex := 339, attributes := #[] }, { accessFlags := 25, nameIndex := 361, descriptorIndex := 339, attributes := #[] }, { accessFlags := 26, nameIndex := 364, descriptorIndex := 339, attributes := #[] }, { accessFlags := 26, nameIndex := 365, descriptorIndex := 339, attributes := #[] }, { accessFlags := 26, nameIndex := 172, descriptorIndex := 173, attributes := #[] }, { accessFlags := 26, nameIndex := 176, descriptorIndex := 173, attributes := #[] }, { accessFlags := 8, nameIndex := 344, descriptorIndex := 339, attributes := #[] }, { accessFlags := 8, nameIndex := 338, descriptorIndex := 339, attributes := #[] }, { accessFlags := 4120, nameIndex := 245, descriptorIndex := 246, attributes := #[] }])
  fields := #[{ name := "E", type := .double, accessFlags := 25, slot := 0, constantValue := 0 }, { name := "PI", type := .double, accessFlags := 25, slot := 1, constantValue := 0 }, { name := "TAU", type := .double, accessFlags := 25, slot := 2, constantValue := 0 }, { name := "DEGREES_TO_RADIANS", type := .double, accessFlags := 26, slot := 3, constantValue := 0 }, { name := "RADIANS_TO_DEGREES", type := .double, accessFlags := 26, slot := 4, constantValue := 0 }, { name := "negativeZeroFloatBits", type := .long, accessFlags := 26, slot := 5, constantValue := 0 }, { name := "negativeZeroDoubleBits", type := .long, accessFlags := 26, slot := 6, constantValue := 0 }, { name := "twoToTheDoubleScaleUp", type := .double, accessFlags := 8, slot := 7, constantValue := 0 }, { name := "twoToTheDoubleScaleDown", type := .double, accessFlags := 8, slot := 8, constantValue := 0 }, { name := "$assertionsDisabled", type := .boolean, accessFlags := 4120, slot := 9, constantValue := 0 }]
  methods := #[k9m0, k9m1]
  instanceTypes := #[]
  staticTypes := #[.double, .double, .double, .double, .double, .long, .long, .double, .double, .boolean]
  resolved := Array.replicate 460 none
  statics := none }

def pool10 : Array CpInfo := pool [(1, .class_ 2), (0, u "java/lang/Integer"), (16, u "digits"), (0, u "[C"), (46, u "<init>"), (17, u "DigitOnes"), (0, u "[B"), (2, u "DigitTens"), (10, .nameAndType 67 101), (0, u "()V"), (85, u "valueOf"), (0, u "(I)Ljava/lang/Integer;"), (0, .class_ 190), (0, u "java/lang/Integer$IntegerCache"), (0, .fieldref 189 192), (0, .nameAndType 193 194), (0, u "high"), (0, u "I"), (0, .fieldref 189 196), (0, .nameAndType 197 198), (0, u "cache"), (0, u "[Ljava/lang/Integer;"), (0, .methodref 1 200), (0, .nameAndType 67 201), (0, u "(I)V"), (0, .methodref 203 100), (0, .class_ 204), (0, u "java/lang/Number"), (0, .fieldref 1 206), (0, .nameAndType 207 194), (0, u "value"), (94, u "TYPE"), (0, u "Ljava/lang/Class;"), (0, .class_ 305), (0, u "java/lang/Comparable"), (0, .class_ 307), (0, u "java/lang/constant/Constable"), (0, .class_ 309), (0, u "java/lang/constant/ConstantDesc"), (0, u "MIN_VALUE"), (1, u "MAX_VALUE"), (3, u "SIZE"), (1, u "BYTES"), (1, u "serialVersionUID"), (0, u "J")] 131

def k10c0 : Code := { maxStack := 3, maxLocals := 1, code := jdk_33_method_22_code, exceptionTable := #[], attributes := #[] }
def k10m0 : Method := { name := "valueOf", desc := "(I)Ljava/lang/Integer;", sig := { parameters := [.int], returnType := some (.object "java/lang/Integer") }, accessFlags := 9, code := some k10c0 }
def k10c1 : Code := { maxStack := 2, maxLocals := 2, code := jdk_33_method_23_code, exceptionTable := #[], attributes := #[] }
def k10m1 : Method := { name := "<init>", desc := "(I)V", sig := { parameters := [.int], returnType := none }, accessFlags := 1, code := some k10c1 }
/-- java/lang/Integer -/
def k10 : Class := { plain "java/lang/Integer" (some 4) with
  accessFlags := 49
  interfaces := #[5, 6, 7]
  cf := some (fileOf pool10 1 #[.nestMembers #[189]] #[{ accessFlags := 9, nameIndex := 187, descriptorIndex := 188, attributes := #[] }, { accessFlags := 1, nameIndex := 67, descriptorIndex := 201, attributes := #[] }] 49 203 #[304, 306, 308] #[{ accessFlags := 25, nameIndex := 310, descriptorIndex := 194, attributes := #[] }, { accessFlags := 25, nameIndex := 312, descriptorIndex := 194, attributes := #[] }, { accessFlags := 25, nameIndex := 302, descriptorIndex := 303, attributes := #[] }, { accessFlags := 24, nameIndex := 19, descriptorIndex := 20, attributes := #[] }, { accessFlags := 24, nameIndex := 89, descriptorIndex := 86, attributes := #[] }, { accessFlags := 24, nameIndex := 85, descriptorIndex := 86, attributes := #[] }, { accessFlags := 18, nameIndex := 207, descriptorIndex := 194, attributes := #[] }, { accessFlags := 25, nameIndex := 316, descriptorIndex := 194, attributes := #[] }, { accessFlags := 25, nameIndex := 318, descriptorIndex := 194, attributes := #[] }, { accessFlags := 26, nameIndex := 320, descriptorIndex := 321, attributes := #[] }])
  fields := #[{ name := "MIN_VALUE", type := .int, accessFlags := 25, slot := 0, constantValue := 0 }, { name := "MAX_VALUE", type := .int, accessFlags := 25, slot := 1, constantValue := 0 }, { name := "TYPE", type := (.object "java/lang/Class"), accessFlags := 25, slot := 2, constantValue := 0 }, { name := "digits", type := (.array .char), accessFlags := 24, slot := 3, constantValue := 0 }, { name := "DigitTens", type := (.array .byte), accessFlags := 24, slot := 4, constantValue := 0 }, { name := "DigitOnes", type := (.array .byte), accessFlags := 24, slot := 5, constantValue := 0 }, { name := "value", type := .int, accessFlags := 18, slot := 0, constantValue := 0 }, { name := "SIZE", type := .int, accessFlags := 25, slot := 6, constantValue := 0 }, { name := "BYTES", type := .int, accessFlags := 25, slot := 7, constantValue := 0 }, { name := "serialVersionUID", type := .long, accessFlags := 26, slot := 8, constantValue := 0 }]
  methods := #[k10m0, k10m1]
  instanceTypes := #[.int]
  staticTypes := #[.int, .int, (.object "java/lang/Class"), (.array .char), (.array .byte), (.array .byte), .int, .int, .long]
  resolved := Array.replicate 453 none
  statics := none }

def pool11 : Array CpInfo := pool [(2, .class_ 4), (1, u "java/lang/Object"), (0, u "<init>"), (0, u "()V"), (0, .class_ 8), (0, u "java/lang/Integer"), (7, .class_ 18), (1, u "java/lang/Integer$IntegerCache"), (0, u "$assertionsDisabled"), (0, u "Z"), (26, u "high"), (0, u "I"), (8, u "archivedCache"), (0, u "[Ljava/lang/Integer;"), (12, u "cache"), (0, u "low")] 27

def k11m0 : Method := { name := "<init>", desc := "()V", sig := { parameters := [], returnType := none }, accessFlags := 2, code := none }
/-- java/lang/Integer$IntegerCache -/
def k11 : Class := { plain "java/lang/Integer$IntegerCache" (some 0) with
  accessFlags := 48
  interfaces := #[]
  cf := some (fileOf pool11 16 #[.nestHost 7] #[{ accessFlags := 2, nameIndex := 5, descriptorIndex := 6, attributes := #[] }] 48 2 #[] #[{ accessFlags := 24, nameIndex := 72, descriptorIndex := 48, attributes := #[] }, { accessFlags := 24, nameIndex := 47, descriptorIndex := 48, attributes := #[] }, { accessFlags := 24, nameIndex := 71, descriptorIndex := 58, attributes := #[] }, { accessFlags := 8, nameIndex := 57, descriptorIndex := 58, attributes := #[] }, { accessFlags := 4120, nameIndex := 19, descriptorIndex := 20, attributes := #[] }])
  fields := #[{ name := "low", type := .int, accessFlags := 24, slot := 0, constantValue := 0 }, { name := "high", type := .int, accessFlags := 24, slot := 1, constantValue := 0 }, { name := "cache", type := (.array (.object "java/lang/Integer")), accessFlags := 24, slot := 2, constantValue := 0 }, { name := "archivedCache", type := (.array (.object "java/lang/Integer")), accessFlags := 8, slot := 3, constantValue := 0 }, { name := "$assertionsDisabled", type := .boolean, accessFlags := 4120, slot := 4, constantValue := 0 }]
  methods := #[k11m0]
  instanceTypes := #[]
  staticTypes := #[.int, .int, (.array (.object "java/lang/Integer")), (.array (.object "java/lang/Integer")), .boolean]
  resolved := Array.replicate 100 none
  statics := some 0 }

def pool12 : Array CpInfo := pool [(1, u "java/lang/Cloneable"), (0, .class_ 1), (0, u "java/lang/Object"), (0, .class_ 3)] 3

/-- java/lang/Cloneable -/
def k12 : Class := { plain "java/lang/Cloneable" (some 0) with
  accessFlags := 1537
  interfaces := #[]
  cf := some (fileOf pool12 2 #[] #[] 1537 4 #[] #[])
  fields := #[]
  methods := #[]
  instanceTypes := #[]
  staticTypes := #[]
  resolved := Array.replicate 8 none
  statics := none }

/-- the primitive byte -/
def k13 : Class := { plain "byte" none with kind := .primitive 'B', accessFlags := 0x411 }
/-- [B -/
def k14 : Class := { plain "[B" (some 0) with kind := .array 13 .byte, interfaces := #[12, 3], accessFlags := 1041 }

/-- the primitive int -/
def k15 : Class := { plain "int" none with kind := .primitive 'I', accessFlags := 0x411 }
/-- [I -/
def k16 : Class := { plain "[I" (some 0) with kind := .array 15 .int, interfaces := #[12, 3], accessFlags := 1041 }

/-- [Ljava/lang/Integer; -/
def k17 : Class := { plain "[Ljava/lang/Integer;" (some 0) with kind := .array 10 (.object "java/lang/Integer"), interfaces := #[12, 3], accessFlags := 1041 }

def heap : Heap := #[{ cls := 11, slots := #[.int 0, .int 127, .ref 1, .null, .int 0], vm := .statics 11 },
  { cls := 17, slots := #[.ref 2, .ref 3, .ref 4, .ref 5, .ref 6, .ref 7, .ref 8, .ref 9, .ref 10, .ref 11, .ref 12, .ref 13, .ref 14, .ref 15, .ref 16, .ref 17, .ref 18, .ref 19, .ref 20, .ref 21, .ref 22, .ref 23, .ref 24, .ref 25, .ref 26, .ref 27, .ref 28, .ref 29, .ref 30, .ref 31, .ref 32, .ref 33, .ref 34, .ref 35, .ref 36, .ref 37, .ref 38, .ref 39, .ref 40, .ref 41, .ref 42, .ref 43, .ref 44, .ref 45, .ref 46, .ref 47, .ref 48, .ref 49, .ref 50, .ref 51, .ref 52, .ref 53, .ref 54, .ref 55, .ref 56, .ref 57, .ref 58, .ref 59, .ref 60, .ref 61, .ref 62, .ref 63, .ref 64, .ref 65, .ref 66, .ref 67, .ref 68, .ref 69, .ref 70, .ref 71, .ref 72, .ref 73, .ref 74, .ref 75, .ref 76, .ref 77, .ref 78, .ref 79, .ref 80, .ref 81, .ref 82, .ref 83, .ref 84, .ref 85, .ref 86, .ref 87, .ref 88, .ref 89, .ref 90, .ref 91, .ref 92, .ref 93, .ref 94, .ref 95, .ref 96, .ref 97, .ref 98, .ref 99, .ref 100, .ref 101, .ref 102, .ref 103, .ref 104, .ref 105, .ref 106, .ref 107, .ref 108, .ref 109, .ref 110, .ref 111, .ref 112, .ref 113, .ref 114, .ref 115, .ref 116, .ref 117, .ref 118, .ref 119, .ref 120, .ref 121, .ref 122, .ref 123, .ref 124, .ref 125, .ref 126, .ref 127, .ref 128, .ref 129, .ref 130, .ref 131, .ref 132, .ref 133, .ref 134, .ref 135, .ref 136, .ref 137, .ref 138, .ref 139, .ref 140, .ref 141, .ref 142, .ref 143, .ref 144, .ref 145, .ref 146, .ref 147, .ref 148, .ref 149, .ref 150, .ref 151, .ref 152, .ref 153, .ref 154, .ref 155, .ref 156, .ref 157, .ref 158, .ref 159, .ref 160, .ref 161, .ref 162, .ref 163, .ref 164, .ref 165, .ref 166, .ref 167, .ref 168, .ref 169, .ref 170, .ref 171, .ref 172, .ref 173, .ref 174, .ref 175, .ref 176, .ref 177, .ref 178, .ref 179, .ref 180, .ref 181, .ref 182, .ref 183, .ref 184, .ref 185, .ref 186, .ref 187, .ref 188, .ref 189, .ref 190, .ref 191, .ref 192, .ref 193, .ref 194, .ref 195, .ref 196, .ref 197, .ref 198, .ref 199, .ref 200, .ref 201, .ref 202, .ref 203, .ref 204, .ref 205, .ref 206, .ref 207, .ref 208, .ref 209, .ref 210, .ref 211, .ref 212, .ref 213, .ref 214, .ref 215, .ref 216, .ref 217, .ref 218, .ref 219, .ref 220, .ref 221, .ref 222, .ref 223, .ref 224, .ref 225, .ref 226, .ref 227, .ref 228, .ref 229, .ref 230, .ref 231, .ref 232, .ref 233, .ref 234, .ref 235, .ref 236, .ref 237, .ref 238, .ref 239, .ref 240, .ref 241, .ref 242, .ref 243, .ref 244, .ref 245, .ref 246, .ref 247, .ref 248, .ref 249, .ref 250, .ref 251, .ref 252, .ref 253, .ref 254, .ref 255, .ref 256, .ref 257], vm := .none },
  { cls := 10, slots := #[.int (-128)], vm := .none },
  { cls := 10, slots := #[.int (-127)], vm := .none },
  { cls := 10, slots := #[.int (-126)], vm := .none },
  { cls := 10, slots := #[.int (-125)], vm := .none },
  { cls := 10, slots := #[.int (-124)], vm := .none },
  { cls := 10, slots := #[.int (-123)], vm := .none },
  { cls := 10, slots := #[.int (-122)], vm := .none },
  { cls := 10, slots := #[.int (-121)], vm := .none },
  { cls := 10, slots := #[.int (-120)], vm := .none },
  { cls := 10, slots := #[.int (-119)], vm := .none },
  { cls := 10, slots := #[.int (-118)], vm := .none },
  { cls := 10, slots := #[.int (-117)], vm := .none },
  { cls := 10, slots := #[.int (-116)], vm := .none },
  { cls := 10, slots := #[.int (-115)], vm := .none },
  { cls := 10, slots := #[.int (-114)], vm := .none },
  { cls := 10, slots := #[.int (-113)], vm := .none },
  { cls := 10, slots := #[.int (-112)], vm := .none },
  { cls := 10, slots := #[.int (-111)], vm := .none },
  { cls := 10, slots := #[.int (-110)], vm := .none },
  { cls := 10, slots := #[.int (-109)], vm := .none },
  { cls := 10, slots := #[.int (-108)], vm := .none },
  { cls := 10, slots := #[.int (-107)], vm := .none },
  { cls := 10, slots := #[.int (-106)], vm := .none },
  { cls := 10, slots := #[.int (-105)], vm := .none },
  { cls := 10, slots := #[.int (-104)], vm := .none },
  { cls := 10, slots := #[.int (-103)], vm := .none },
  { cls := 10, slots := #[.int (-102)], vm := .none },
  { cls := 10, slots := #[.int (-101)], vm := .none },
  { cls := 10, slots := #[.int (-100)], vm := .none },
  { cls := 10, slots := #[.int (-99)], vm := .none },
  { cls := 10, slots := #[.int (-98)], vm := .none },
  { cls := 10, slots := #[.int (-97)], vm := .none },
  { cls := 10, slots := #[.int (-96)], vm := .none },
  { cls := 10, slots := #[.int (-95)], vm := .none },
  { cls := 10, slots := #[.int (-94)], vm := .none },
  { cls := 10, slots := #[.int (-93)], vm := .none },
  { cls := 10, slots := #[.int (-92)], vm := .none },
  { cls := 10, slots := #[.int (-91)], vm := .none },
  { cls := 10, slots := #[.int (-90)], vm := .none },
  { cls := 10, slots := #[.int (-89)], vm := .none },
  { cls := 10, slots := #[.int (-88)], vm := .none },
  { cls := 10, slots := #[.int (-87)], vm := .none },
  { cls := 10, slots := #[.int (-86)], vm := .none },
  { cls := 10, slots := #[.int (-85)], vm := .none },
  { cls := 10, slots := #[.int (-84)], vm := .none },
  { cls := 10, slots := #[.int (-83)], vm := .none },
  { cls := 10, slots := #[.int (-82)], vm := .none },
  { cls := 10, slots := #[.int (-81)], vm := .none },
  { cls := 10, slots := #[.int (-80)], vm := .none },
  { cls := 10, slots := #[.int (-79)], vm := .none },
  { cls := 10, slots := #[.int (-78)], vm := .none },
  { cls := 10, slots := #[.int (-77)], vm := .none },
  { cls := 10, slots := #[.int (-76)], vm := .none },
  { cls := 10, slots := #[.int (-75)], vm := .none },
  { cls := 10, slots := #[.int (-74)], vm := .none },
  { cls := 10, slots := #[.int (-73)], vm := .none },
  { cls := 10, slots := #[.int (-72)], vm := .none },
  { cls := 10, slots := #[.int (-71)], vm := .none },
  { cls := 10, slots := #[.int (-70)], vm := .none },
  { cls := 10, slots := #[.int (-69)], vm := .none },
  { cls := 10, slots := #[.int (-68)], vm := .none },
  { cls := 10, slots := #[.int (-67)], vm := .none },
  { cls := 10, slots := #[.int (-66)], vm := .none },
  { cls := 10, slots := #[.int (-65)], vm := .none },
  { cls := 10, slots := #[.int (-64)], vm := .none },
  { cls := 10, slots := #[.int (-63)], vm := .none },
  { cls := 10, slots := #[.int (-62)], vm := .none },
  { cls := 10, slots := #[.int (-61)], vm := .none },
  { cls := 10, slots := #[.int (-60)], vm := .none },
  { cls := 10, slots := #[.int (-59)], vm := .none },
  { cls := 10, slots := #[.int (-58)], vm := .none },
  { cls := 10, slots := #[.int (-57)], vm := .none },
  { cls := 10, slots := #[.int (-56)], vm := .none },
  { cls := 10, slots := #[.int (-55)], vm := .none },
  { cls := 10, slots := #[.int (-54)], vm := .none },
  { cls := 10, slots := #[.int (-53)], vm := .none },
  { cls := 10, slots := #[.int (-52)], vm := .none },
  { cls := 10, slots := #[.int (-51)], vm := .none },
  { cls := 10, slots := #[.int (-50)], vm := .none },
  { cls := 10, slots := #[.int (-49)], vm := .none },
  { cls := 10, slots := #[.int (-48)], vm := .none },
  { cls := 10, slots := #[.int (-47)], vm := .none },
  { cls := 10, slots := #[.int (-46)], vm := .none },
  { cls := 10, slots := #[.int (-45)], vm := .none },
  { cls := 10, slots := #[.int (-44)], vm := .none },
  { cls := 10, slots := #[.int (-43)], vm := .none },
  { cls := 10, slots := #[.int (-42)], vm := .none },
  { cls := 10, slots := #[.int (-41)], vm := .none },
  { cls := 10, slots := #[.int (-40)], vm := .none },
  { cls := 10, slots := #[.int (-39)], vm := .none },
  { cls := 10, slots := #[.int (-38)], vm := .none },
  { cls := 10, slots := #[.int (-37)], vm := .none },
  { cls := 10, slots := #[.int (-36)], vm := .none },
  { cls := 10, slots := #[.int (-35)], vm := .none },
  { cls := 10, slots := #[.int (-34)], vm := .none },
  { cls := 10, slots := #[.int (-33)], vm := .none },
  { cls := 10, slots := #[.int (-32)], vm := .none },
  { cls := 10, slots := #[.int (-31)], vm := .none },
  { cls := 10, slots := #[.int (-30)], vm := .none },
  { cls := 10, slots := #[.int (-29)], vm := .none },
  { cls := 10, slots := #[.int (-28)], vm := .none },
  { cls := 10, slots := #[.int (-27)], vm := .none },
  { cls := 10, slots := #[.int (-26)], vm := .none },
  { cls := 10, slots := #[.int (-25)], vm := .none },
  { cls := 10, slots := #[.int (-24)], vm := .none },
  { cls := 10, slots := #[.int (-23)], vm := .none },
  { cls := 10, slots := #[.int (-22)], vm := .none },
  { cls := 10, slots := #[.int (-21)], vm := .none },
  { cls := 10, slots := #[.int (-20)], vm := .none },
  { cls := 10, slots := #[.int (-19)], vm := .none },
  { cls := 10, slots := #[.int (-18)], vm := .none },
  { cls := 10, slots := #[.int (-17)], vm := .none },
  { cls := 10, slots := #[.int (-16)], vm := .none },
  { cls := 10, slots := #[.int (-15)], vm := .none },
  { cls := 10, slots := #[.int (-14)], vm := .none },
  { cls := 10, slots := #[.int (-13)], vm := .none },
  { cls := 10, slots := #[.int (-12)], vm := .none },
  { cls := 10, slots := #[.int (-11)], vm := .none },
  { cls := 10, slots := #[.int (-10)], vm := .none },
  { cls := 10, slots := #[.int (-9)], vm := .none },
  { cls := 10, slots := #[.int (-8)], vm := .none },
  { cls := 10, slots := #[.int (-7)], vm := .none },
  { cls := 10, slots := #[.int (-6)], vm := .none },
  { cls := 10, slots := #[.int (-5)], vm := .none },
  { cls := 10, slots := #[.int (-4)], vm := .none },
  { cls := 10, slots := #[.int (-3)], vm := .none },
  { cls := 10, slots := #[.int (-2)], vm := .none },
  { cls := 10, slots := #[.int (-1)], vm := .none },
  { cls := 10, slots := #[.int (0)], vm := .none },
  { cls := 10, slots := #[.int (1)], vm := .none },
  { cls := 10, slots := #[.int (2)], vm := .none },
  { cls := 10, slots := #[.int (3)], vm := .none },
  { cls := 10, slots := #[.int (4)], vm := .none },
  { cls := 10, slots := #[.int (5)], vm := .none },
  { cls := 10, slots := #[.int (6)], vm := .none },
  { cls := 10, slots := #[.int (7)], vm := .none },
  { cls := 10, slots := #[.int (8)], vm := .none },
  { cls := 10, slots := #[.int (9)], vm := .none },
  { cls := 10, slots := #[.int (10)], vm := .none },
  { cls := 10, slots := #[.int (11)], vm := .none },
  { cls := 10, slots := #[.int (12)], vm := .none },
  { cls := 10, slots := #[.int (13)], vm := .none },
  { cls := 10, slots := #[.int (14)], vm := .none },
  { cls := 10, slots := #[.int (15)], vm := .none },
  { cls := 10, slots := #[.int (16)], vm := .none },
  { cls := 10, slots := #[.int (17)], vm := .none },
  { cls := 10, slots := #[.int (18)], vm := .none },
  { cls := 10, slots := #[.int (19)], vm := .none },
  { cls := 10, slots := #[.int (20)], vm := .none },
  { cls := 10, slots := #[.int (21)], vm := .none },
  { cls := 10, slots := #[.int (22)], vm := .none },
  { cls := 10, slots := #[.int (23)], vm := .none },
  { cls := 10, slots := #[.int (24)], vm := .none },
  { cls := 10, slots := #[.int (25)], vm := .none },
  { cls := 10, slots := #[.int (26)], vm := .none },
  { cls := 10, slots := #[.int (27)], vm := .none },
  { cls := 10, slots := #[.int (28)], vm := .none },
  { cls := 10, slots := #[.int (29)], vm := .none },
  { cls := 10, slots := #[.int (30)], vm := .none },
  { cls := 10, slots := #[.int (31)], vm := .none },
  { cls := 10, slots := #[.int (32)], vm := .none },
  { cls := 10, slots := #[.int (33)], vm := .none },
  { cls := 10, slots := #[.int (34)], vm := .none },
  { cls := 10, slots := #[.int (35)], vm := .none },
  { cls := 10, slots := #[.int (36)], vm := .none },
  { cls := 10, slots := #[.int (37)], vm := .none },
  { cls := 10, slots := #[.int (38)], vm := .none },
  { cls := 10, slots := #[.int (39)], vm := .none },
  { cls := 10, slots := #[.int (40)], vm := .none },
  { cls := 10, slots := #[.int (41)], vm := .none },
  { cls := 10, slots := #[.int (42)], vm := .none },
  { cls := 10, slots := #[.int (43)], vm := .none },
  { cls := 10, slots := #[.int (44)], vm := .none },
  { cls := 10, slots := #[.int (45)], vm := .none },
  { cls := 10, slots := #[.int (46)], vm := .none },
  { cls := 10, slots := #[.int (47)], vm := .none },
  { cls := 10, slots := #[.int (48)], vm := .none },
  { cls := 10, slots := #[.int (49)], vm := .none },
  { cls := 10, slots := #[.int (50)], vm := .none },
  { cls := 10, slots := #[.int (51)], vm := .none },
  { cls := 10, slots := #[.int (52)], vm := .none },
  { cls := 10, slots := #[.int (53)], vm := .none },
  { cls := 10, slots := #[.int (54)], vm := .none },
  { cls := 10, slots := #[.int (55)], vm := .none },
  { cls := 10, slots := #[.int (56)], vm := .none },
  { cls := 10, slots := #[.int (57)], vm := .none },
  { cls := 10, slots := #[.int (58)], vm := .none },
  { cls := 10, slots := #[.int (59)], vm := .none },
  { cls := 10, slots := #[.int (60)], vm := .none },
  { cls := 10, slots := #[.int (61)], vm := .none },
  { cls := 10, slots := #[.int (62)], vm := .none },
  { cls := 10, slots := #[.int (63)], vm := .none },
  { cls := 10, slots := #[.int (64)], vm := .none },
  { cls := 10, slots := #[.int (65)], vm := .none },
  { cls := 10, slots := #[.int (66)], vm := .none },
  { cls := 10, slots := #[.int (67)], vm := .none },
  { cls := 10, slots := #[.int (68)], vm := .none },
  { cls := 10, slots := #[.int (69)], vm := .none },
  { cls := 10, slots := #[.int (70)], vm := .none },
  { cls := 10, slots := #[.int (71)], vm := .none },
  { cls := 10, slots := #[.int (72)], vm := .none },
  { cls := 10, slots := #[.int (73)], vm := .none },
  { cls := 10, slots := #[.int (74)], vm := .none },
  { cls := 10, slots := #[.int (75)], vm := .none },
  { cls := 10, slots := #[.int (76)], vm := .none },
  { cls := 10, slots := #[.int (77)], vm := .none },
  { cls := 10, slots := #[.int (78)], vm := .none },
  { cls := 10, slots := #[.int (79)], vm := .none },
  { cls := 10, slots := #[.int (80)], vm := .none },
  { cls := 10, slots := #[.int (81)], vm := .none },
  { cls := 10, slots := #[.int (82)], vm := .none },
  { cls := 10, slots := #[.int (83)], vm := .none },
  { cls := 10, slots := #[.int (84)], vm := .none },
  { cls := 10, slots := #[.int (85)], vm := .none },
  { cls := 10, slots := #[.int (86)], vm := .none },
  { cls := 10, slots := #[.int (87)], vm := .none },
  { cls := 10, slots := #[.int (88)], vm := .none },
  { cls := 10, slots := #[.int (89)], vm := .none },
  { cls := 10, slots := #[.int (90)], vm := .none },
  { cls := 10, slots := #[.int (91)], vm := .none },
  { cls := 10, slots := #[.int (92)], vm := .none },
  { cls := 10, slots := #[.int (93)], vm := .none },
  { cls := 10, slots := #[.int (94)], vm := .none },
  { cls := 10, slots := #[.int (95)], vm := .none },
  { cls := 10, slots := #[.int (96)], vm := .none },
  { cls := 10, slots := #[.int (97)], vm := .none },
  { cls := 10, slots := #[.int (98)], vm := .none },
  { cls := 10, slots := #[.int (99)], vm := .none },
  { cls := 10, slots := #[.int (100)], vm := .none },
  { cls := 10, slots := #[.int (101)], vm := .none },
  { cls := 10, slots := #[.int (102)], vm := .none },
  { cls := 10, slots := #[.int (103)], vm := .none },
  { cls := 10, slots := #[.int (104)], vm := .none },
  { cls := 10, slots := #[.int (105)], vm := .none },
  { cls := 10, slots := #[.int (106)], vm := .none },
  { cls := 10, slots := #[.int (107)], vm := .none },
  { cls := 10, slots := #[.int (108)], vm := .none },
  { cls := 10, slots := #[.int (109)], vm := .none },
  { cls := 10, slots := #[.int (110)], vm := .none },
  { cls := 10, slots := #[.int (111)], vm := .none },
  { cls := 10, slots := #[.int (112)], vm := .none },
  { cls := 10, slots := #[.int (113)], vm := .none },
  { cls := 10, slots := #[.int (114)], vm := .none },
  { cls := 10, slots := #[.int (115)], vm := .none },
  { cls := 10, slots := #[.int (116)], vm := .none },
  { cls := 10, slots := #[.int (117)], vm := .none },
  { cls := 10, slots := #[.int (118)], vm := .none },
  { cls := 10, slots := #[.int (119)], vm := .none },
  { cls := 10, slots := #[.int (120)], vm := .none },
  { cls := 10, slots := #[.int (121)], vm := .none },
  { cls := 10, slots := #[.int (122)], vm := .none },
  { cls := 10, slots := #[.int (123)], vm := .none },
  { cls := 10, slots := #[.int (124)], vm := .none },
  { cls := 10, slots := #[.int (125)], vm := .none },
  { cls := 10, slots := #[.int (126)], vm := .none },
  { cls := 10, slots := #[.int (127)], vm := .none }]
def classes : Array Class := #[k0, k1, k2, k3, k4, k5, k6, k7, k8, k9, k10, k11, k12, k13, k14, k15, k16, k17]
def interned : List (Array UInt16 × Addr) := []
def slotsUsed : Nat := 517
def theMethod : MethodId := ⟨1, 1⟩
def args0 : Array Value := #[.int 5, .int 6, .int 7, .int 8, .int 2]
def aboutOver (below : List Frame) : State where
  vm := { classes := classes, interned := interned.toArray }
  heap := heap
  slotsUsed := slotsUsed
  threads := #[{ frames := .invoking theMethod args0 :: below }]
def below0 : List Frame := [.native { method := ⟨0, 0⟩, args := #[] }]
def about1 : State := aboutOver below0
def p0 : Program := .bare "" "" ""
def e0 : Env := launch0.env 0 0 0
theorem w_frames : about1.frames = Frame.invoking theMethod args0 :: below0 := rfl
set_option maxRecDepth 65536 in
theorem w_args : argsFit about1.vm theMethod args0 = true := by decide +kernel
set_option maxRecDepth 65536 in
theorem w_heap : heapFits about1 = true := by decide +kernel
set_option maxRecDepth 65536 in
theorem w_runnable : about1.curStatus? = some .runnable := by decide +kernel
set_option maxRecDepth 65536 in
theorem w_alone : about1.alone = true := by decide +kernel
set_option maxRecDepth 65536 in
theorem w_named : about1.methodNamed? x = some theMethod := by decide +kernel
set_option maxRecDepth 65536 in
theorem w_hears : about1.hears theMethod below0 = true := by decide +kernel
set_option maxRecDepth 65536 in
theorem w_ripe : about1.ripe theMethod args0 below0 = true := by decide +kernel
theorem w_running : about1.status = .running := rfl
set_option maxRecDepth 65536 in
theorem w_room : about1.hasRoom e0.platform room_1 = true :=
  launch0.hasRoom_least _ room_1 (by decide +kernel) (by decide +kernel) (by decide +kernel) (by decide +kernel) (by decide +kernel) (by decide +kernel)
theorem allAtoms_all (ts : List Jvm.Cond) (a : Array Jvm.Value) (st : Jvm.State) : (allAtoms ts).before a st = ts.all (fun c => c.before a st) := by
  induction ts with
  | nil => rfl
  | cons c t ih =>
    show (Jvm.Cond.and c (allAtoms t)).before a st = _
    rw [Jvm.Cond.before_and, ih, List.all_cons]
def words1 : List Jvm.Cond := Jvm.Cond.code x code maxLocals ret :: tables_1
/-- a 'code' word, met by the world's own term for the bytes: nothing is compared byte by byte -/
theorem code_word {y : MethodName} {bytes : ByteArray} {mx : Nat} {rt : Option FieldType} {a : Array Value} {s : State} {m : MethodId} {meth : Method} {c : Code} (h1 : s.methodNamed? y = some m) (h2 : s.vm.method? m = some meth) (h3 : meth.code = some c) (h4 : c.code = bytes)
    (h5 : (c.maxLocals == mx && c.exceptionTable.isEmpty && decide (c.maxStack ≤ mostOperands) && decide (meth.sig.returnType = rt) && !meth.locks && decide (parseMethodDescriptor y.desc = some meth.sig)) = true) : (Jvm.Cond.code y bytes mx rt).before a s = true := by
  simp only [Bool.and_eq_true, beq_iff_eq, Bool.not_eq_true', decide_eq_true_eq] at h5
  obtain ⟨⟨⟨⟨⟨g1, g2⟩, g3⟩, g4⟩, g5⟩, g6⟩ := h5
  simp [Cond.before, Cond.holds, Cond.value, h1, h2, h3, h4, g1, g2, g3, g4, g5, g6]
def isCode : Jvm.Cond → Bool
  | .code _ _ _ _ => true
  | _ => false
theorem all_split {L : List Jvm.Cond} {P : Jvm.Cond → Bool} (h1 : L.all (fun c => isCode c || P c) = true) (h2 : ∀ c ∈ L.filter isCode, P c = true) : L.all P = true := by
  refine List.all_eq_true.mpr fun c hc => ?_
  have h := List.all_eq_true.mp h1 c hc
  rcases Bool.eq_false_or_eq_true (isCode c) with hi | hi
  · exact h2 c (List.mem_filter.mpr ⟨hc, hi⟩)
  · simpa [hi] using h
set_option maxRecDepth 65536 in
theorem w_c0 : (Jvm.Cond.code x code maxLocals ret).before args0 about1 = true := code_word (m := ⟨1, 1⟩) (meth := k1m1) (c := k1c1) (by decide +kernel) rfl rfl rfl (by decide +kernel)
set_option maxRecDepth 65536 in
theorem w_c1 : (Jvm.Cond.code ({ cls := "com/example/minisum/minisum/PointEqualsPinLaw", name := "coord", desc := "(I)D" } : Jvm.MethodName) method_3_code (4 : Nat) (Option.some Jvm.ClassFile.FieldType.double)).before args0 about1 = true := code_word (m := ⟨1, 2⟩) (meth := k1m2) (c := k1c2) (by decide +kernel) rfl rfl rfl (by decide +kernel)
set_option maxRecDepth 65536 in
theorem w_c2 : (Jvm.Cond.code ({ cls := "com/example/minisum/minisum/Point", name := "<init>", desc := "(DD)V" } : Jvm.MethodName) prog_17_method_1_code (5 : Nat) (Option.none : Option Jvm.ClassFile.FieldType)).before args0 about1 = true := code_word (m := ⟨2, 0⟩) (meth := k2m0) (c := k2c0) (by decide +kernel) rfl rfl rfl (by decide +kernel)
set_option maxRecDepth 65536 in
theorem w_c3 : (Jvm.Cond.code ({ cls := "java/lang/Object", name := "<init>", desc := "()V" } : Jvm.MethodName) object_method_1_code (1 : Nat) (Option.none : Option Jvm.ClassFile.FieldType)).before args0 about1 = true := code_word (m := ⟨0, 0⟩) (meth := k0m0) (c := k0c0) (by decide +kernel) rfl rfl rfl (by decide +kernel)
set_option maxRecDepth 65536 in
theorem w_c4 : (Jvm.Cond.code ({ cls := "java/lang/Double", name := "isFinite", desc := "(D)Z" } : Jvm.MethodName) jdk_117_method_8_code (2 : Nat) (Option.some Jvm.ClassFile.FieldType.boolean)).before args0 about1 = true := code_word (m := ⟨8, 1⟩) (meth := k8m1) (c := k8c1) (by decide +kernel) rfl rfl rfl (by decide +kernel)
set_option maxRecDepth 65536 in
theorem w_c5 : (Jvm.Cond.code ({ cls := "java/lang/Math", name := "abs", desc := "(D)D" } : Jvm.MethodName) jdk_29_method_64_code (2 : Nat) (Option.some Jvm.ClassFile.FieldType.double)).before args0 about1 = true := code_word (m := ⟨9, 1⟩) (meth := k9m1) (c := k9c1) (by decide +kernel) rfl rfl rfl (by decide +kernel)
set_option maxRecDepth 65536 in
theorem w_c6 : (Jvm.Cond.code ({ cls := "com/example/minisum/minisum/PointEqualsPinLaw", name := "same", desc := "(II)Z" } : Jvm.MethodName) method_6_code (2 : Nat) (Option.some Jvm.ClassFile.FieldType.boolean)).before args0 about1 = true := code_word (m := ⟨1, 5⟩) (meth := k1m5) (c := k1c5) (by decide +kernel) rfl rfl rfl (by decide +kernel)
set_option maxRecDepth 65536 in
theorem w_c7 : (Jvm.Cond.code ({ cls := "com/example/minisum/minisum/PointEqualsPinLaw", name := "value", desc := "(I)J" } : Jvm.MethodName) method_4_code (3 : Nat) (Option.some Jvm.ClassFile.FieldType.long)).before args0 about1 = true := code_word (m := ⟨1, 3⟩) (meth := k1m3) (c := k1c3) (by decide +kernel) rfl rfl rfl (by decide +kernel)
set_option maxRecDepth 65536 in
theorem w_c8 : (Jvm.Cond.code ({ cls := "com/example/minisum/minisum/Point", name := "equals", desc := "(Ljava/lang/Object;)Z" } : Jvm.MethodName) prog_17_method_5_code (2 : Nat) (Option.some Jvm.ClassFile.FieldType.boolean)).before args0 about1 = true := code_word (m := ⟨2, 1⟩) (meth := k2m1) (c := k2c1) (by decide +kernel) rfl rfl rfl (by decide +kernel)
set_option maxRecDepth 65536 in
theorem w_c9 : (Jvm.Cond.code ({ cls := "java/lang/Double", name := "compare", desc := "(DD)I" } : Jvm.MethodName) jdk_117_method_27_code (8 : Nat) (Option.some Jvm.ClassFile.FieldType.int)).before args0 about1 = true := code_word (m := ⟨8, 4⟩) (meth := k8m4) (c := k8c4) (by decide +kernel) rfl rfl rfl (by decide +kernel)
set_option maxRecDepth 65536 in
theorem w_c10 : (Jvm.Cond.code ({ cls := "java/lang/Double", name := "doubleToLongBits", desc := "(D)J" } : Jvm.MethodName) jdk_117_method_23_code (2 : Nat) (Option.some Jvm.ClassFile.FieldType.long)).before args0 about1 = true := code_word (m := ⟨8, 2⟩) (meth := k8m2) (c := k8c2) (by decide +kernel) rfl rfl rfl (by decide +kernel)
set_option maxRecDepth 65536 in
theorem w_c11 : (Jvm.Cond.code ({ cls := "java/lang/Double", name := "isNaN", desc := "(D)Z" } : Jvm.MethodName) jdk_117_method_6_code (2 : Nat) (Option.some Jvm.ClassFile.FieldType.boolean)).before args0 about1 = true := code_word (m := ⟨8, 0⟩) (meth := k8m0) (c := k8c0) (by decide +kernel) rfl rfl rfl (by decide +kernel)
set_option maxRecDepth 65536 in
theorem w_c12 : (Jvm.Cond.code ({ cls := "java/lang/Integer", name := "valueOf", desc := "(I)Ljava/lang/Integer;" } : Jvm.MethodName) jdk_33_method_22_code (1 : Nat) (Option.some (Jvm.ClassFile.FieldType.object "java/lang/Integer"))).before args0 about1 = true := code_word (m := ⟨10, 0⟩) (meth := k10m0) (c := k10c0) (by decide +kernel) rfl rfl rfl (by decide +kernel)
set_option maxRecDepth 65536 in
theorem w_c13 : (Jvm.Cond.code ({ cls := "java/lang/Integer", name := "<init>", desc := "(I)V" } : Jvm.MethodName) jdk_33_method_23_code (2 : Nat) (Option.none : Option Jvm.ClassFile.FieldType)).before args0 about1 = true := code_word (m := ⟨10, 1⟩) (meth := k10m1) (c := k10c1) (by decide +kernel) rfl rfl rfl (by decide +kernel)
set_option maxRecDepth 65536 in
theorem w_c14 : (Jvm.Cond.code ({ cls := "java/lang/Number", name := "<init>", desc := "()V" } : Jvm.MethodName) jdk_18_method_1_code (1 : Nat) (Option.none : Option Jvm.ClassFile.FieldType)).before args0 about1 = true := code_word (m := ⟨4, 0⟩) (meth := k4m0) (c := k4c0) (by decide +kernel) rfl rfl rfl (by decide +kernel)
set_option maxRecDepth 65536 in
theorem w_c15 : (Jvm.Cond.code ({ cls := "com/example/minisum/minisum/PointEqualsPinLaw", name := "negZero", desc := "(I)Z" } : Jvm.MethodName) method_5_code (1 : Nat) (Option.some Jvm.ClassFile.FieldType.boolean)).before args0 about1 = true := code_word (m := ⟨1, 4⟩) (meth := k1m4) (c := k1c4) (by decide +kernel) rfl rfl rfl (by decide +kernel)
def codes1 : List Jvm.Cond := [Jvm.Cond.code x code maxLocals ret, Jvm.Cond.code ({ cls := "com/example/minisum/minisum/PointEqualsPinLaw", name := "coord", desc := "(I)D" } : Jvm.MethodName) method_3_code (4 : Nat) (Option.some Jvm.ClassFile.FieldType.double), Jvm.Cond.code ({ cls := "com/example/minisum/minisum/Point", name := "<init>", desc := "(DD)V" } : Jvm.MethodName) prog_17_method_1_code (5 : Nat) (Option.none : Option Jvm.ClassFile.FieldType), Jvm.Cond.code ({ cls := "java/lang/Object", name := "<init>", desc := "()V" } : Jvm.MethodName) object_method_1_code (1 : Nat) (Option.none : Option Jvm.ClassFile.FieldType), Jvm.Cond.code ({ cls := "java/lang/Double", name := "isFinite", desc := "(D)Z" } : Jvm.MethodName) jdk_117_method_8_code (2 : Nat) (Option.some Jvm.ClassFile.FieldType.boolean), Jvm.Cond.code ({ cls := "java/lang/Math", name := "abs", desc := "(D)D" } : Jvm.MethodName) jdk_29_method_64_code (2 : Nat) (Option.some Jvm.ClassFile.FieldType.double), Jvm.Cond.code ({ cls := "com/example/minisum/minisum/PointEqualsPinLaw", name := "same", desc := "(II)Z" } : Jvm.MethodName) method_6_code (2 : Nat) (Option.some Jvm.ClassFile.FieldType.boolean), Jvm.Cond.code ({ cls := "com/example/minisum/minisum/PointEqualsPinLaw", name := "value", desc := "(I)J" } : Jvm.MethodName) method_4_code (3 : Nat) (Option.some Jvm.ClassFile.FieldType.long), Jvm.Cond.code ({ cls := "com/example/minisum/minisum/Point", name := "equals", desc := "(Ljava/lang/Object;)Z" } : Jvm.MethodName) prog_17_method_5_code (2 : Nat) (Option.some Jvm.ClassFile.FieldType.boolean), Jvm.Cond.code ({ cls := "java/lang/Double", name := "compare", desc := "(DD)I" } : Jvm.MethodName) jdk_117_method_27_code (8 : Nat) (Option.some Jvm.ClassFile.FieldType.int), Jvm.Cond.code ({ cls := "java/lang/Double", name := "doubleToLongBits", desc := "(D)J" } : Jvm.MethodName) jdk_117_method_23_code (2 : Nat) (Option.some Jvm.ClassFile.FieldType.long), Jvm.Cond.code ({ cls := "java/lang/Double", name := "isNaN", desc := "(D)Z" } : Jvm.MethodName) jdk_117_method_6_code (2 : Nat) (Option.some Jvm.ClassFile.FieldType.boolean), Jvm.Cond.code ({ cls := "java/lang/Integer", name := "valueOf", desc := "(I)Ljava/lang/Integer;" } : Jvm.MethodName) jdk_33_method_22_code (1 : Nat) (Option.some (Jvm.ClassFile.FieldType.object "java/lang/Integer")), Jvm.Cond.code ({ cls := "java/lang/Integer", name := "<init>", desc := "(I)V" } : Jvm.MethodName) jdk_33_method_23_code (2 : Nat) (Option.none : Option Jvm.ClassFile.FieldType), Jvm.Cond.code ({ cls := "java/lang/Number", name := "<init>", desc := "()V" } : Jvm.MethodName) jdk_18_method_1_code (1 : Nat) (Option.none : Option Jvm.ClassFile.FieldType), Jvm.Cond.code ({ cls := "com/example/minisum/minisum/PointEqualsPinLaw", name := "negZero", desc := "(I)Z" } : Jvm.MethodName) method_5_code (1 : Nat) (Option.some Jvm.ClassFile.FieldType.boolean)]
set_option maxRecDepth 65536 in
theorem codes_eq : words1.filter isCode = codes1 := rfl
theorem w_codes : ∀ c ∈ words1.filter isCode, c.before args0 about1 = true := by
  rw [codes_eq]
  intro c hc
  simp only [codes1, List.mem_cons, List.not_mem_nil, or_false] at hc
  rcases hc with rfl | rfl | rfl | rfl | rfl | rfl | rfl | rfl | rfl | rfl | rfl | rfl | rfl | rfl | rfl | rfl
  · exact w_c0
  · exact w_c1
  · exact w_c2
  · exact w_c3
  · exact w_c4
  · exact w_c5
  · exact w_c6
  · exact w_c7
  · exact w_c8
  · exact w_c9
  · exact w_c10
  · exact w_c11
  · exact w_c12
  · exact w_c13
  · exact w_c14
  · exact w_c15
set_option maxRecDepth 65536 in
theorem w_t1 : (words1.take 24).all (fun c => isCode c || c.before args0 about1) = true := by decide +kernel
set_option maxRecDepth 65536 in
theorem w_t2 : ((words1.drop 24).take 24).all (fun c => isCode c || c.before args0 about1) = true := by decide +kernel
set_option maxRecDepth 65536 in
theorem w_t3 : (((words1.drop 24).drop 24).take 24).all (fun c => isCode c || c.before args0 about1) = true := by decide +kernel
set_option maxRecDepth 65536 in
theorem w_t4 : (((words1.drop 24).drop 24).drop 24).all (fun c => isCode c || c.before args0 about1) = true := by decide +kernel
theorem w_tables : (allAtoms (Jvm.Cond.code x code maxLocals ret :: tables_1)).before args0 about1 = true := by
  rw [allAtoms_all]
  show words1.all (fun c => c.before args0 about1) = true
  refine all_split ?_ w_codes
  rw [← List.take_append_drop 24 words1, List.all_append, w_t1, ← List.take_append_drop 24 (words1.drop 24), List.all_append, w_t2, ← List.take_append_drop 24 ((words1.drop 24).drop 24), List.all_append, w_t3, w_t4]
  rfl
set_option maxRecDepth 65536 in
theorem w_rest : rest_1_c.before args0 about1 = true := by decide +kernel
set_option maxRecDepth 65536 in
theorem w_case : (Jvm.Cond.and given_1 narrow_1).before args0 about1 = true := by decide +kernel
theorem w_applies : (headSpec (Jvm.Cond.code x code maxLocals ret :: tables_1) room_1).applies x e0.platform about1 = true :=
  (Spec.applies_iff w_frames).mpr ⟨w_running, w_runnable, w_alone, w_named, w_hears, w_ripe, w_room, w_tables⟩
theorem atStart : AtStart classFile x code maxLocals ret World_1 tables_1 room_1 Calls_1 rest_1 Pre_1 launch0 p0 e0 about1 theMethod args0 below0 :=
  ⟨lists_1, trivial, launch0.admits_env _ _ _, launch0.least_env, fairChoices_fair.cas, fairChoices_fair.clock, w_frames, w_args, w_heap, w_applies, trivial, w_rest, w_case⟩
end start1
theorem witness_1 : WitnessClaimed_1 := ⟨start1.p0, start1.e0, start1.about1, start1.theMethod, start1.args0, start1.below0, start1.atStart⟩
end Jvm.Pilot.@@N@@
