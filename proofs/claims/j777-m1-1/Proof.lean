import JvmDerived
import JvmDerived.Pilot.@@N@@Statement
import JvmDerived.Pilot.@@N@@Code
set_option linter.unusedVariables false
set_option linter.unusedSimpArgs false
namespace Jvm.Pilot.@@N@@
open Jvm Jvm.ClassFile Sem Op Lib Jvm.Free Jvm.Stand Jvm.LawKit Jvm.RoadKit Bundle Jvm.Free.Fl Jvm.Pilot.@@N@@.Jvm.D
theorem own_w {a0 : Array Value} {Z : State} (hw : ∀ d ∈ tables_1, d.before a0 Z = true) (i : Nat) {d : Jvm.Cond} (h : tables_1[i]? = some d) : d.before a0 Z = true := hw _ (List.mem_of_getElem? h)
abbrev own_S (p : Program) (e : Env) (below : List Frame) (T : State) (m : MethodId) (pc : Nat) (Ls : Array Slot) (st : List Value) (t : State) : Prop := Steps p.tables e below (T.setTop (mkF m pc Ls st)) t
abbrev oI (x : Int32) : Slot := .val (.int x)
abbrev oJ (x : Int64) : Slot := .val (.long x)
abbrev oD (x : UInt64) : Slot := .val (.double x)
abbrev oR (x : Addr) : Slot := .val (.ref x)
abbrev oU : Slot := .unset
abbrev oV : Slot := .second
section Re
variable {tb : Tables} {e : Env} {below : List Frame} {T target : State} {m : MethodId} {pc : Nat} {Ls : Array Slot} {rest : List Value}
theorem reI {x y : Int32} (h : x = y) (k : Steps tb e below (T.setTop (mkF m pc Ls (.int y :: rest))) target) : Steps tb e below (T.setTop (mkF m pc Ls (.int x :: rest))) target := by rw [h]; exact k
theorem reJ {x y : Int64} (h : x = y) (k : Steps tb e below (T.setTop (mkF m pc Ls (.long y :: rest))) target) : Steps tb e below (T.setTop (mkF m pc Ls (.long x :: rest))) target := by rw [h]; exact k
theorem reD {x y : UInt64} (h : x = y) (k : Steps tb e below (T.setTop (mkF m pc Ls (.double y :: rest))) target) : Steps tb e below (T.setTop (mkF m pc Ls (.double x :: rest))) target := by rw [h]; exact k
theorem re2I {v : Value} {x y : Int32} (h : x = y) (k : Steps tb e below (T.setTop (mkF m pc Ls (v :: .int y :: rest))) target) : Steps tb e below (T.setTop (mkF m pc Ls (v :: .int x :: rest))) target := by rw [h]; exact k
theorem own_nnl {e v : UInt64} (h : e = v) (hv : NoNaN64 v) : NoNaN64 e := h ▸ hv
end Re
section OwnFloat
open Jvm.FP
/-- finite, and worth z units of 2^-1074 -/
def own_At (a : UInt64) (z : Int) : Prop := ∃ s c q, Core.val64 a = .fin s c q ∧ Core.signed s (Core.inUnits c q (-1074)) = z
/-- a magnitude that a double has exactly -/
def own_Rep (n : Nat) : Prop := ∃ m e : Nat, n = m * 2 ^ e ∧ m < 2 ^ 53 ∧ e ≤ 2045
theorem own_shift {A C a b a' b' : Nat} (h : A * 2 ^ a = C * 2 ^ b) (hab : a + b' = a' + b) : A * 2 ^ a' = C * 2 ^ b' := by
  have h1 : A * 2 ^ a' * 2 ^ b = C * 2 ^ b' * 2 ^ b := by
    calc A * 2 ^ a' * 2 ^ b = A * (2 ^ a' * 2 ^ b) := Nat.mul_assoc _ _ _
      _ = A * 2 ^ (a' + b) := by rw [Nat.pow_add]
      _ = A * 2 ^ (a + b') := by rw [hab]
      _ = A * 2 ^ a * 2 ^ b' := by rw [Nat.pow_add, Nat.mul_assoc]
      _ = C * 2 ^ b * 2 ^ b' := by rw [h]
      _ = C * 2 ^ b' * 2 ^ b := by rw [Nat.mul_assoc, Nat.mul_comm (2 ^ b), Nat.mul_assoc]
  exact Nat.eq_of_mul_eq_mul_right (Nat.two_pow_pos b) h1
theorem own_fit (s : Bool) {n : Nat} (h : own_Rep n) : ∃ c q, Core.fits Core.b64 (.fin s c q) ∧ Core.inUnits c q (-1074) = n := by
  obtain ⟨m, e, rfl, hm, he⟩ := h
  have h1 : Core.b64.qmin ≤ -1074 + (e : Int) := by rw [Core.qmin_b64]; omega
  have h2 : -1074 + (e : Int) ≤ Core.b64.qmax := by rw [show Core.b64.qmax = 971 by decide +kernel]; omega
  obtain ⟨c, q, hr, hu⟩ := Core.round_exact Core.good_b64 s (c := m) (q := -1074 + (e : Int)) hm h1 h2
  refine ⟨c, q, ?_, ?_⟩
  · rw [← hr]; exact Core.round_fits Core.good_b64 _
  · rw [Core.qmin_b64] at hu
    rw [hu]
    show m * 2 ^ (-1074 + (e : Int) - -1074).toNat = m * 2 ^ e
    congr 2
    omega
/-- rounding a ratio that a double has exactly -/
theorem own_rr {s : Bool} {A B n : Nat} {e : Int} (hB : 0 < B) (hn : own_Rep n) (h : A * 2 ^ (e + 1074).toNat = n * B * 2 ^ (-(e + 1074)).toNat) :
    ∃ c q, Core.roundRatio Core.b64 s A B e = .fin s c q ∧ Core.inUnits c q (-1074) = n := by
  obtain ⟨c, q, hf, hu⟩ := own_fit s hn
  refine ⟨c, q, Core.roundRatio_exact Core.good_b64 hB hf ?_, hu⟩
  have hq : -1074 ≤ q := by have := hf.2.1; rw [Core.qmin_b64] at this; exact this
  rw [← hu] at h
  unfold Core.inUnits at h
  have h' : A * 2 ^ (e + 1074).toNat = (c * B) * 2 ^ ((q - -1074).toNat + (-(e + 1074)).toNat) := by
    rw [h, Nat.pow_add]; simp only [Nat.mul_assoc, Nat.mul_left_comm, Nat.mul_comm]
  exact own_shift h' (by omega)
theorem own_at_fin {a : UInt64} {z : Int} (h : own_At a z) : Fin64 a := by
  obtain ⟨s, c, q, h, -⟩ := h
  exact fin64_core.mpr ⟨s, c, q, h⟩
theorem own_at_nn {a : UInt64} {z : Int} (h : own_At a z) : NoNaN64 a := (own_at_fin h).noNaN
theorem own_at_val {a : UInt64} {z : Int} (h : own_At a z) : Core.val64 a ≠ .nan ∧ Core.zval Core.b64 (Core.val64 a) = z := by
  obtain ⟨s, c, q, h, hz⟩ := h
  rw [h]
  refine ⟨nofun, ?_⟩
  show Core.signed s (Core.inUnits c q Core.b64.qmin) = z
  rw [Core.qmin_b64]; exact hz
theorem own_cmp {a b : UInt64} {x y : Int} (ha : own_At a x) (hb : own_At b y) : FP.dcmp a b = some (compare x y) := by
  have h1 := own_at_val ha; have h2 := own_at_val hb
  rw [← h1.2, ← h2.2]; exact Core.dcmp_zval h1.1 h2.1
theorem own_cmpV {a b : UInt64} {x y : Int} (ha : own_At a x) (hb : own_At b y) (o : CmpOp) : cmpValue (FP.dcmp a b) o = if x < y then -1 else if x = y then 0 else 1 := by
  rw [own_cmp ha hb]
  rcases Int.lt_trichotomy x y with h | h | h
  · rw [if_pos h, show compare x y = .lt from by simp [compare, compareOfLessAndEq, h]]; cases o <;> rfl
  · rw [if_neg (by omega), if_pos h, show compare x y = .eq from by subst h; simp [compare, compareOfLessAndEq]]; cases o <;> rfl
  · rw [if_neg (by omega), if_neg (by omega), show compare x y = .gt from by simp [compare, compareOfLessAndEq, show ¬ x < y by omega, show ¬ x = y by omega]]; cases o <;> rfl
theorem own_eqV {a b : UInt64} {x y : Int} (ha : own_At a x) (hb : own_At b y) (h : x = y) (o : CmpOp) : cmpValue (FP.dcmp a b) o = 0 := by
  rw [own_cmpV ha hb, if_neg (by omega), if_pos h]
theorem own_int {i : Int} {a : UInt64} (h : Core.DInt i a) : own_At a (i * (Core.one64 : Int)) := by
  have hz := Core.DInt_zval h
  unfold Core.DInt at h
  cases e : Core.val64 a with
  | nan => rw [e] at h; exact h.elim
  | inf s => rw [e] at h; exact h.elim
  | fin s c q =>
    refine ⟨s, c, q, e, ?_⟩
    rw [e] at hz
    rw [← hz]
    show _ = Core.signed s (Core.inUnits c q Core.b64.qmin)
    rw [Core.qmin_b64]
theorem own_dint_fin {i : Int} {a : UInt64} (h : Core.DInt i a) : Fin64 a := own_at_fin (own_int h)
theorem own_dint_nn {i : Int} {a : UInt64} (h : Core.DInt i a) : NoNaN64 a := (own_dint_fin h).noNaN
theorem own_icmp {a b : UInt64} {x y : Int} (ha : Core.DInt x a) (hb : Core.DInt y b) (o : CmpOp) : cmpValue (FP.dcmp a b) o = if x < y then -1 else if x = y then 0 else 1 := by
  rw [show FP.dcmp a b = some (compare x y) from Core.dcmp_int ha hb]
  rcases Int.lt_trichotomy x y with h | h | h
  · rw [if_pos h, show compare x y = .lt from by simp [compare, compareOfLessAndEq, h]]; cases o <;> rfl
  · rw [if_neg (by omega), if_pos h, show compare x y = .eq from by subst h; simp [compare, compareOfLessAndEq]]; cases o <;> rfl
  · rw [if_neg (by omega), if_neg (by omega), show compare x y = .gt from by simp [compare, compareOfLessAndEq, show ¬ x < y by omega, show ¬ x = y by omega]]; cases o <;> rfl
theorem own_ieq {a b : UInt64} {x y : Int} (ha : Core.DInt x a) (hb : Core.DInt y b) (h : x = y) (o : CmpOp) : cmpValue (FP.dcmp a b) o = 0 := by
  rw [own_icmp ha hb, if_neg (by omega), if_pos h]
/-- the quotient of two whole numbers, as one rounding of their ratio -/
theorem own_quot {i j : Int} {a b : UInt64} (ha : Core.DInt i a) (hb : Core.DInt j b) (hj : j ≠ 0) :
    ∃ s, Core.val64 (FP.ddiv a b) = Core.roundRatio Core.b64 s i.natAbs j.natAbs 0 ∧ (i ≠ 0 → s = (decide (i < 0) != decide (j < 0))) := by
  show ∃ s, Core.val64 (Core.ddiv a b) = _ ∧ _
  rw [Core.val64_ddiv]
  unfold Core.DInt at ha hb
  generalize Core.val64 a = x at ha
  generalize Core.val64 b = y at hb
  cases x with
  | nan => exact ha.elim
  | inf => exact ha.elim
  | fin s c q =>
  cases y with
  | nan => exact hb.elim
  | inf => exact hb.elim
  | fin t d r =>
    have hd : d ≠ 0 := fun h => hj ((Core.whole_zero hb).mp h)
    refine ⟨s != t, ?_, fun hi => by rw [Core.whole_sign ha hi, Core.whole_sign hb hj]⟩
    show (if d = 0 then _ else Core.roundRatio Core.b64 (s != t) c d (q - r)) = _
    rw [if_neg hd]
    refine Core.roundRatio_congr (by omega) (by omega) ?_
    have h1 := Core.whole_natAbs ha
    have h2 := Core.whole_natAbs hb
    have h3 : (c * j.natAbs) * 2 ^ (q.toNat + (-r).toNat) = (i.natAbs * d) * 2 ^ ((-q).toNat + r.toNat) := by
      calc (c * j.natAbs) * 2 ^ (q.toNat + (-r).toNat) = (c * 2 ^ q.toNat) * (j.natAbs * 2 ^ (-r).toNat) := by rw [Nat.pow_add]; simp only [Nat.mul_assoc, Nat.mul_left_comm, Nat.mul_comm]
        _ = (i.natAbs * 2 ^ (-q).toNat) * (d * 2 ^ r.toNat) := by rw [h1, h2]
        _ = (i.natAbs * d) * 2 ^ ((-q).toNat + r.toNat) := by rw [Nat.pow_add]; simp only [Nat.mul_assoc, Nat.mul_left_comm, Nat.mul_comm]
    exact own_shift h3 (by omega)
/-- a quotient that comes out whole -/
theorem own_ddiv {i j k : Int} {a b : UInt64} (ha : Core.DInt i a) (hb : Core.DInt j b) (hj : j ≠ 0) (hk : i = k * j) (hs : k.natAbs ≤ 2 ^ 53) : Core.DInt k (FP.ddiv a b) := by
  obtain ⟨s, hv, hsgn⟩ := own_quot ha hb hj
  unfold Core.DInt
  rw [hv]
  have hw : Core.Whole k (.fin s k.natAbs 0) := by
    show Core.signed s (k.natAbs * 2 ^ (0 : Int).toNat) = k * ((2 ^ (-(0 : Int)).toNat : Nat) : Int)
    by_cases h0 : k = 0
    · subst h0; simp [Core.signed]
    · have hi : i ≠ 0 := by rw [hk]; exact Int.mul_ne_zero h0 hj
      have hsk : s = decide (k < 0) := by
        rw [hsgn hi, hk]
        rcases Int.lt_or_gt_of_ne h0 with a1 | a1 <;> rcases Int.lt_or_gt_of_ne hj with a2 | a2
        · have := Int.mul_pos_of_neg_of_neg a1 a2; simp [show ¬ k * j < 0 by omega, a1, a2]
        · have := Int.mul_neg_of_neg_of_pos a1 a2; simp [this, a1, show ¬ j < 0 by omega]
        · have := Int.mul_neg_of_pos_of_neg a1 a2; simp [this, show ¬ k < 0 by omega, a2]
        · have := Int.mul_pos a1 a2; simp [show ¬ k * j < 0 by omega, show ¬ k < 0 by omega, show ¬ j < 0 by omega]
      rw [hsk]
      by_cases hn : k < 0
      · simp [Core.signed, hn]; omega
      · simp [Core.signed, hn]; omega
  have h1 : Core.roundRatio Core.b64 s i.natAbs j.natAbs 0 = Core.round Core.b64 (.fin s k.natAbs 0) := by
    show _ = Core.roundRatio Core.b64 s k.natAbs 1 0
    refine Core.roundRatio_congr (by omega) (by omega) ?_
    rw [hk, Int.natAbs_mul]; simp
  rw [h1]
  exact Core.whole_round Core.good_b64 Core.wide_b64 hs hw
theorem own_zv {s : Bool} {c : Nat} {q x : Int} (h : Core.signed s (Core.inUnits c q (-1074)) = x) : Core.zval Core.b64 (.fin s c q) = x := by
  show Core.signed s (Core.inUnits c q Core.b64.qmin) = x
  rw [Core.qmin_b64]; exact h
theorem own_sg {s : Bool} {k : Nat} {z : Int} (h : Core.signed s k = z) : Core.signed s z.natAbs = z := by rw [← h, Core.natAbs_signed]
theorem own_sum {a b : UInt64} {x y : Int} (ha : own_At a x) (hb : own_At b y) (hr : own_Rep (x + y).natAbs) : own_At (FP.dadd a b) (x + y) := by
  obtain ⟨s, c, q, ea, hx⟩ := ha
  obtain ⟨t, d, r, eb, hy⟩ := hb
  have fa := Core.val64_fits a; rw [ea] at fa
  have fb := Core.val64_fits b; rw [eb] at fb
  obtain ⟨sg, n, e, he, hq, hs⟩ := Core.sum_units fa fb
  rw [own_zv hx, own_zv hy, Core.qmin_b64] at hs
  rw [Core.qmin_b64] at hq
  have hn : n * 2 ^ (e + 1074).toNat = (x + y).natAbs := by
    rw [← hs, Core.natAbs_signed]; unfold Core.inUnits; congr 2
  obtain ⟨c', q', hr', hu⟩ := own_rr (s := sg) (A := n) (B := 1) (e := e) (by decide) hr (by rw [hn, show (-(e + 1074)).toNat = 0 by omega]; simp)
  refine ⟨sg, c', q', ?_, ?_⟩
  · show Core.val64 (Core.dadd a b) = _
    rw [Core.val64_dadd, ea, eb, he]; exact hr'
  · rw [hu]; exact own_sg hs
theorem own_neg {a : UInt64} {x : Int} (ha : own_At a x) : own_At (FP.dneg a) (-x) := by
  obtain ⟨s, c, q, ea, hx⟩ := ha
  refine ⟨!s, c, q, ?_, ?_⟩
  · rw [FP.val64_dneg, ea]; rfl
  · rw [← hx]; cases s <;> simp [Core.signed]
theorem own_sub {a b : UInt64} {x y : Int} (ha : own_At a x) (hb : own_At b y) (hr : own_Rep (x - y).natAbs) : own_At (FP.dsub a b) (x - y) := by
  obtain ⟨s, c, q, ea, hx⟩ := ha
  obtain ⟨t, d, r, eb, hy⟩ := hb
  have fa := Core.val64_fits a; rw [ea] at fa
  have fb := Core.val64_fits b; rw [eb] at fb
  have fb' : Core.fits Core.b64 (.fin (!t) d r) := fb
  have hy' : Core.signed (!t) (Core.inUnits d r (-1074)) = -y := by rw [← hy]; cases t <;> simp [Core.signed]
  obtain ⟨sg, n, e, he, hq, hs⟩ := Core.sum_units fa fb'
  rw [own_zv hx, own_zv hy', Core.qmin_b64, ← Int.sub_eq_add_neg] at hs
  rw [Core.qmin_b64] at hq
  have hn : n * 2 ^ (e + 1074).toNat = (x - y).natAbs := by
    rw [← hs, Core.natAbs_signed]; unfold Core.inUnits; congr 2
  obtain ⟨c', q', hr', hu⟩ := own_rr (s := sg) (A := n) (B := 1) (e := e) (by decide) hr (by rw [hn, show (-(e + 1074)).toNat = 0 by omega]; simp)
  refine ⟨sg, c', q', ?_, ?_⟩
  · show Core.val64 (Core.dsub a b) = _
    rw [Core.val64_dsub, ea, eb]
    show Core.round Core.b64 (Core.exactSum (.fin s c q) (.fin (!t) d r)) = _
    rw [he]; exact hr'
  · rw [hu]; exact own_sg hs
theorem own_mul {a b : UInt64} {x y z : Int} (ha : own_At a x) (hb : own_At b y) (hz : x * y = z * (Core.one64 : Int)) (hr : own_Rep z.natAbs) : own_At (FP.dmul a b) z := by
  obtain ⟨s, c, q, ea, hx⟩ := ha
  obtain ⟨t, d, r, eb, hy⟩ := hb
  have fa := Core.val64_fits a; rw [ea] at fa
  have fb := Core.val64_fits b; rw [eb] at fb
  obtain ⟨he, hq, hu⟩ := Core.product_units fa fb
  rw [Core.qmin_b64] at hq hu
  have hX : Core.zmag Core.b64 (.fin s c q) = x.natAbs := by
    rw [← hx, Core.natAbs_signed]; show Core.inUnits c q Core.b64.qmin = _; rw [Core.qmin_b64]
  have hY : Core.zmag Core.b64 (.fin t d r) = y.natAbs := by
    rw [← hy, Core.natAbs_signed]; show Core.inUnits d r Core.b64.qmin = _; rw [Core.qmin_b64]
  have hN : x.natAbs * y.natAbs = z.natAbs * 2 ^ 1074 := by
    have := congrArg Int.natAbs hz
    rw [Int.natAbs_mul, Int.natAbs_mul, Int.natAbs_natCast] at this
    exact this
  rw [hX, hY, hN] at hu
  have hu' : c * d * 2 ^ (q + r + 2148).toNat = z.natAbs * 2 ^ 1074 := by
    rw [← hu]; unfold Core.inUnits; congr 2
  obtain ⟨c', q', hr', hw⟩ := own_rr (s := s != t) (A := c * d) (B := 1) (e := q + r) (by decide) hr (by rw [Nat.mul_one]; exact own_shift hu' (by omega))
  refine ⟨s != t, c', q', ?_, ?_⟩
  · show Core.val64 (Core.dmul a b) = _
    rw [Core.val64_dmul, ea, eb, he]; exact hr'
  · rw [hw]
    have p : (Core.one64 : Int) ≠ 0 := by have := Core.one64_pos; omega
    refine Int.eq_of_mul_eq_mul_right p ?_
    rw [← hz, ← Core.signed_mul, show z.natAbs * Core.one64 = x.natAbs * y.natAbs from hN.symm, Core.signed_xor, own_sg hx, own_sg hy]
theorem own_div {a b : UInt64} {x y z : Int} (ha : own_At a x) (hb : own_At b y) (h0 : y ≠ 0) (hz : x * (Core.one64 : Int) = z * y) (hr : own_Rep z.natAbs) : own_At (FP.ddiv a b) z := by
  obtain ⟨s, c, q, ea, hx⟩ := ha
  obtain ⟨t, d, r, eb, hy⟩ := hb
  have fa := Core.val64_fits a; rw [ea] at fa
  have fb := Core.val64_fits b; rw [eb] at fb
  have hq : -1074 ≤ q := by have := fa.2.1; rw [Core.qmin_b64] at this; exact this
  have hq2 : -1074 ≤ r := by have := fb.2.1; rw [Core.qmin_b64] at this; exact this
  have hd : d ≠ 0 := fun h => h0 (by rw [← hy, h]; unfold Core.inUnits; rw [Nat.zero_mul]; exact Core.signed_zero t)
  have hX : c * 2 ^ (q + 1074).toNat = x.natAbs := by
    rw [← hx, Core.natAbs_signed]; unfold Core.inUnits; congr 2
  have hY : d * 2 ^ (r + 1074).toNat = y.natAbs := by
    rw [← hy, Core.natAbs_signed]; unfold Core.inUnits; congr 2
  have hN : x.natAbs * 2 ^ 1074 = z.natAbs * y.natAbs := by
    have := congrArg Int.natAbs hz
    rw [Int.natAbs_mul, Int.natAbs_mul, Int.natAbs_natCast] at this
    exact this
  have hu : c * 2 ^ ((q + 1074).toNat + 1074) = (z.natAbs * d) * 2 ^ (r + 1074).toNat := by
    rw [Nat.pow_add, ← Nat.mul_assoc, hX, hN, ← hY, Nat.mul_assoc]
  obtain ⟨c', q', hr', hw⟩ := own_rr (s := s != t) (A := c) (B := d) (e := q - r) (by omega) hr (own_shift hu (by omega))
  refine ⟨s != t, c', q', ?_, ?_⟩
  · show Core.val64 (Core.ddiv a b) = _
    rw [Core.val64_ddiv, ea, eb]
    show (if d = 0 then _ else Core.roundRatio Core.b64 (s != t) c d (q - r)) = _
    rw [if_neg hd]; exact hr'
  · rw [hw]
    refine Int.eq_of_mul_eq_mul_right h0 ?_
    have e1 : Core.signed (s != t) z.natAbs * Core.signed t y.natAbs = Core.signed s (z.natAbs * y.natAbs) := by
      rw [← Core.signed_xor, show ((s != t) != t) = s by cases s <;> cases t <;> rfl]
    rw [own_sg hy] at e1
    rw [e1, ← hz, ← hN, Core.signed_mul, own_sg hx]
    rfl
end OwnFloat
section OwnInt
theorem own_lmul {x y : Int64} {A B : Nat} (hx : x.toInt.natAbs ≤ A) (hy : y.toInt.natAbs ≤ B) (h : A * B < 2 ^ 62) : (x * y).toInt = x.toInt * y.toInt := by
  have hb : (x.toInt * y.toInt).natAbs ≤ A * B := by rw [Int.natAbs_mul]; exact Nat.mul_le_mul hx hy
  rw [Int64.toInt_mul]; exact Int.bmod_eq_of_le (by omega) (by omega)
theorem own_ladd {x y : Int64} {A B : Nat} (hx : x.toInt.natAbs ≤ A) (hy : y.toInt.natAbs ≤ B) (h : A + B < 2 ^ 62) : (x + y).toInt = x.toInt + y.toInt := by
  rw [Int64.toInt_add]; exact Int.bmod_eq_of_le (by omega) (by omega)
theorem own_lsub {x y : Int64} {A B : Nat} (hx : x.toInt.natAbs ≤ A) (hy : y.toInt.natAbs ≤ B) (h : A + B < 2 ^ 62) : (x - y).toInt = x.toInt - y.toInt := by
  rw [Int64.toInt_sub]; exact Int.bmod_eq_of_le (by omega) (by omega)
theorem own_maskL {x m : Int64} {k : Nat} (hk : k ≤ 63) (hm : m.toBitVec.toNat = 2 ^ k - 1) : 0 ≤ (x &&& m).toInt ∧ (x &&& m).toInt < ((2 ^ k : Nat) : Int) := by
  rw [c_maskL x m k hk hm]
  have p : (0 : Int) < ((2 ^ k : Nat) : Int) := by have := Nat.two_pow_pos k; omega
  exact ⟨Int.emod_nonneg _ (by omega), Int.emod_lt_of_pos _ p⟩
theorem own_maskI {x m : Int32} {k : Nat} (hk : k ≤ 31) (hm : m.toBitVec.toNat = 2 ^ k - 1) : 0 ≤ (x &&& m).toInt ∧ (x &&& m).toInt < ((2 ^ k : Nat) : Int) := by
  rw [c_mask x m k hk hm]
  have p : (0 : Int) < ((2 ^ k : Nat) : Int) := by have := Nat.two_pow_pos k; omega
  exact ⟨Int.emod_nonneg _ (by omega), Int.emod_lt_of_pos _ p⟩
theorem own_cases32 {x : Int32} {n : Nat} (h0 : 0 ≤ x.toInt) (h1 : x.toInt < (n : Int)) : ∃ k : Nat, k < n ∧ x = Int32.ofNat k := by
  refine ⟨x.toInt.toNat, by omega, ?_⟩
  apply Int32.toInt_inj.mp
  have hx := x.toInt_lt
  rw [Int32.toInt_ofNat_of_lt (by omega)]
  omega
theorem own_irem {x z m : Int32} (h : z = x % m) {M : Int} (hm : m.toInt = M) (hM : 0 < M) : -M < z.toInt ∧ z.toInt < M ∧ (0 ≤ x.toInt → 0 ≤ z.toInt) := by
  have q := c_irem x m M hm
  rcases (by omega : x.toInt < 0 ∨ 0 ≤ x.toInt) with a | a
  · have := q.2 a; rw [← h] at this
    have b1 := Int.emod_nonneg (-x.toInt) (show M ≠ 0 by omega); have b2 := Int.emod_lt_of_pos (-x.toInt) hM
    omega
  · have := q.1 a; rw [← h] at this
    have b1 := Int.emod_nonneg x.toInt (show M ≠ 0 by omega); have b2 := Int.emod_lt_of_pos x.toInt hM
    omega
theorem own_ple {j k : Nat} (h : j ≤ k) : (2 : Int) ^ j ≤ 2 ^ k := by
  have h1 : ((2 ^ j : Nat) : Int) = (2 : Int) ^ j := Int.natCast_pow 2 j
  have h2 : ((2 ^ k : Nat) : Int) = (2 : Int) ^ k := Int.natCast_pow 2 k
  have h3 : 2 ^ j ≤ 2 ^ k := Nat.pow_le_pow_right (by decide) h
  rw [← h1, ← h2]; omega
end OwnInt
section OwnScale
open Jvm.FP
theorem own_U (j : Nat) (h : j ≤ 1074) : (Core.one64 : Int) = 2 ^ (1074 - j) * 2 ^ j := by
  unfold Core.one64
  rw [← Int.pow_add, Nat.sub_add_cancel h]; simp
/-- a whole number divided by a power of two, and multiplied by it again -/
theorem own_scale {n : Int} {j : Nat} {a b : UInt64} (ha : Core.DInt n a) (hb : Core.DInt (2 ^ j) b) (hn : n.natAbs < 2 ^ 53) (hj : j ≤ 62) :
    own_At (FP.ddiv a b) (n * 2 ^ (1074 - j)) ∧ own_At (FP.dmul (FP.ddiv a b) b) (n * (Core.one64 : Int)) := by
  have hU := own_U j (by omega)
  have hp : (0 : Int) < 2 ^ j := Int.pow_pos (by decide)
  have hU0 : (0 : Int) < (Core.one64 : Int) := by have := Core.one64_pos; omega
  have h1 : own_At (FP.ddiv a b) (n * 2 ^ (1074 - j)) := by
    refine own_div (own_int ha) (own_int hb) (Int.mul_ne_zero (by omega) (by omega)) ?_ ⟨n.natAbs, 1074 - j, ?_, hn, by omega⟩
    · rw [hU]; simp only [Int.mul_assoc, Int.mul_left_comm, Int.mul_comm]
    · rw [Int.natAbs_mul, Int.natAbs_pow]; rfl
  refine ⟨h1, own_mul h1 (own_int hb) ?_ ⟨n.natAbs, 1074, ?_, hn, by omega⟩⟩
  · rw [hU]; simp only [Int.mul_assoc, Int.mul_left_comm, Int.mul_comm]
  · rw [Int.natAbs_mul, Int.natAbs_natCast]; rfl
end OwnScale
theorem own_D0 : FP.Core.DInt 0 (0 : UInt64) := by
  have h := FP.Core.i2d_int (0 : Int32)
  rw [show FP.Core.i2d 0 = 0 by decide +kernel] at h
  exact h
section OwnDy
open Jvm.FP
/-- the double a is n / 2^j -/
def own_Dy (n : Int) (j : Nat) (a : UInt64) : Prop := own_At a (n * 2 ^ (1074 - j))
theorem own_one : (Core.one64 : Int) = 2 ^ 1074 := by rw [own_U 0 (by omega), Nat.sub_zero, Int.pow_zero, Int.mul_one]
theorem own_pw {a b c d : Nat} (h : a + b = c + d) : (2 : Int) ^ a * 2 ^ b = 2 ^ c * 2 ^ d := by rw [← Int.pow_add, ← Int.pow_add, h]
theorem own_dy_int {n : Int} {a : UInt64} (h : Core.DInt n a) : own_Dy n 0 a := by
  have q := own_int h
  rw [own_one] at q
  exact q
theorem own_dy_rep {n : Int} {j : Nat} (h : n.natAbs < 2 ^ 53) : own_Rep (n * 2 ^ (1074 - j)).natAbs :=
  ⟨n.natAbs, 1074 - j, by rw [Int.natAbs_mul, Int.natAbs_pow]; rfl, h, by omega⟩
theorem own_dy_nn {n : Int} {j : Nat} {a : UInt64} (h : own_Dy n j a) : NoNaN64 a := own_at_nn h
theorem own_dy_add {n m : Int} {j : Nat} {a b : UInt64} (ha : own_Dy n j a) (hb : own_Dy m j b) (h : (n + m).natAbs < 2 ^ 53) : own_Dy (n + m) j (FP.dadd a b) := by
  have q := own_sum ha hb (by rw [← Int.add_mul]; exact own_dy_rep h)
  rw [← Int.add_mul] at q
  exact q
theorem own_dy_sub {n m : Int} {j : Nat} {a b : UInt64} (ha : own_Dy n j a) (hb : own_Dy m j b) (h : (n - m).natAbs < 2 ^ 53) : own_Dy (n - m) j (FP.dsub a b) := by
  have q := own_sub ha hb (by rw [← Int.sub_mul]; exact own_dy_rep h)
  rw [← Int.sub_mul] at q
  exact q
theorem own_ac4 (n m X Y : Int) : n * X * (m * Y) = n * m * (X * Y) := by simp only [Int.mul_assoc, Int.mul_left_comm, Int.mul_comm]
theorem own_dy_mul {n m : Int} {j i : Nat} {a b : UInt64} (ha : own_Dy n j a) (hb : own_Dy m i b) (h : (n * m).natAbs < 2 ^ 53) (hj : j + i ≤ 1074) : own_Dy (n * m) (j + i) (FP.dmul a b) := by
  refine own_mul ha hb ?_ (own_dy_rep h)
  rw [own_one, own_ac4, own_pw (c := 1074 - (j + i)) (d := 1074) (by omega), Int.mul_assoc (n * m)]
theorem own_dy_div {n : Int} {j k : Nat} {a b : UInt64} (ha : own_Dy n j a) (hb : own_Dy (2 ^ k) 0 b) (h : n.natAbs < 2 ^ 53) (hj : j + k ≤ 1074) : own_Dy n (j + k) (FP.ddiv a b) := by
  have p1 : (0 : Int) < 2 ^ k := Int.pow_pos (by decide)
  have p2 : (0 : Int) < 2 ^ (1074 - 0) := Int.pow_pos (by decide)
  refine own_div ha hb (Int.mul_ne_zero (Int.ne_of_gt p1) (Int.ne_of_gt p2)) ?_ (own_dy_rep h)
  rw [own_one, Int.mul_assoc n, Int.mul_assoc n, ← Int.mul_assoc (2 ^ (1074 - (j + k))), ← Int.pow_add (2 : Int) (1074 - (j + k)) k, Nat.sub_zero, own_pw (c := 1074 - (j + k) + k) (d := 1074) (by omega)]
theorem own_dy_lift {n : Int} {j : Nat} {a : UInt64} (ha : own_Dy n j a) (k : Nat) (hj : j + k ≤ 1074) : own_Dy (n * 2 ^ k) (j + k) a := by
  unfold own_Dy at ha ⊢
  rw [Int.mul_assoc, ← Int.pow_add, show k + (1074 - (j + k)) = 1074 - j by omega]
  exact ha
theorem own_dy_low {j P : Nat} {a : UInt64} (ha : own_Dy (2 ^ P) j a) (h : j ≤ P) (hj : j ≤ 1074) : own_Dy (2 ^ (P - j)) 0 a := by
  unfold own_Dy at ha ⊢
  rw [own_pw (c := P) (d := 1074 - j) (by omega)]
  exact ha
end OwnDy
theorem own_D1 : FP.Core.DInt 1 (4607182418800017408 : UInt64) := by
  have h := FP.Core.i2d_int (1 : Int32)
  rw [show FP.Core.i2d 1 = (4607182418800017408 : UInt64) by decide +kernel] at h
  exact h
theorem own_D4 : FP.Core.DInt 4 (4616189618054758400 : UInt64) := by
  have h := FP.Core.i2d_int (4 : Int32)
  rw [show FP.Core.i2d 4 = (4616189618054758400 : UInt64) by decide +kernel] at h
  exact h
theorem own_D32 : FP.Core.DInt 32 (4629700416936869888 : UInt64) := by
  have h := FP.Core.i2d_int (32 : Int32)
  rw [show FP.Core.i2d 32 = (4629700416936869888 : UInt64) by decide +kernel] at h
  exact h
theorem own_nb {x y : Int} {A B : Nat} (hx : x.natAbs ≤ A) (hy : y.natAbs ≤ B) : (x * y).natAbs ≤ A * B := by rw [Int.natAbs_mul]; exact Nat.mul_le_mul hx hy
theorem own_wt {k1 b k3 tf qtf idf dl av : UInt64} {A J B T G D L : Int} {AE P Qe : Nat} (h1 : own_Dy A 0 k1) (h2 : own_Dy J 2 b) (h3 : own_Dy B 0 k3) (h4 : own_Dy T 5 tf) (h5 : own_Dy G 0 qtf) (h6 : own_Dy D 0 idf) (h7 : own_Dy L 0 dl) (h8 : own_Dy (2 ^ AE) 0 av)
    (a1 : 0 ≤ A) (a2 : A ≤ 7) (j1 : 0 ≤ J) (j2 : J ≤ 4) (b1 : 0 ≤ B) (b2 : B ≤ 7) (t1 : 0 ≤ T) (t2 : T ≤ 262144) (g1 : 0 ≤ G) (g2 : G ≤ 64) (d1 : D.natAbs ≤ 1024) (l1 : 0 ≤ L) (l2 : L ≤ 15) (ae : AE ≤ 3) (hP : 5 ≤ P) (hP2 : P ≤ 18) (hQ : Qe ≤ 6)
    (hT : A * ((4 - J) * 2 ^ AE + J * L) * 2 ^ (3 - AE) + T = 2 ^ P) (hG : B + G = 2 ^ Qe) :
    NoNaN64 (FP.dsub (4607182418800017408 : UInt64) b) ∧ NoNaN64 (FP.dmul b dl) ∧ NoNaN64 (FP.ddiv (FP.dmul b dl) av) ∧ NoNaN64 (FP.dadd (FP.dsub (4607182418800017408 : UInt64) b) (FP.ddiv (FP.dmul b dl) av)) ∧ NoNaN64 (FP.dmul k1 (FP.dadd (FP.dsub (4607182418800017408 : UInt64) b) (FP.ddiv (FP.dmul b dl) av))) ∧ NoNaN64 (FP.dadd k1 (4607182418800017408 : UInt64)) ∧ NoNaN64 (FP.dmul (FP.dadd k1 (4607182418800017408 : UInt64)) tf) ∧ NoNaN64 (FP.dadd (FP.dmul k1 (FP.dadd (FP.dsub (4607182418800017408 : UInt64) b) (FP.ddiv (FP.dmul b dl) av))) tf) ∧ NoNaN64 (FP.ddiv (FP.dmul (FP.dadd k1 (4607182418800017408 : UInt64)) tf) (FP.dadd (FP.dmul k1 (FP.dadd (FP.dsub (4607182418800017408 : UInt64) b) (FP.ddiv (FP.dmul b dl) av))) tf)) ∧ NoNaN64 (FP.dadd k3 (4607182418800017408 : UInt64)) ∧ NoNaN64 (FP.dmul (FP.ddiv (FP.dmul (FP.dadd k1 (4607182418800017408 : UInt64)) tf) (FP.dadd (FP.dmul k1 (FP.dadd (FP.dsub (4607182418800017408 : UInt64) b) (FP.ddiv (FP.dmul b dl) av))) tf)) (FP.dadd k3 (4607182418800017408 : UInt64))) ∧ NoNaN64 (FP.dmul (FP.dmul (FP.ddiv (FP.dmul (FP.dadd k1 (4607182418800017408 : UInt64)) tf) (FP.dadd (FP.dmul k1 (FP.dadd (FP.dsub (4607182418800017408 : UInt64) b) (FP.ddiv (FP.dmul b dl) av))) tf)) (FP.dadd k3 (4607182418800017408 : UInt64))) qtf) ∧ NoNaN64 (FP.dadd k3 qtf) ∧ NoNaN64 (FP.ddiv (FP.dmul (FP.dmul (FP.ddiv (FP.dmul (FP.dadd k1 (4607182418800017408 : UInt64)) tf) (FP.dadd (FP.dmul k1 (FP.dadd (FP.dsub (4607182418800017408 : UInt64) b) (FP.ddiv (FP.dmul b dl) av))) tf)) (FP.dadd k3 (4607182418800017408 : UInt64))) qtf) (FP.dadd k3 qtf)) ∧ NoNaN64 (FP.dmul (FP.ddiv (FP.dmul (FP.dmul (FP.ddiv (FP.dmul (FP.dadd k1 (4607182418800017408 : UInt64)) tf) (FP.dadd (FP.dmul k1 (FP.dadd (FP.dsub (4607182418800017408 : UInt64) b) (FP.ddiv (FP.dmul b dl) av))) tf)) (FP.dadd k3 (4607182418800017408 : UInt64))) qtf) (FP.dadd k3 qtf)) idf) ∧ own_Dy ((A + 1) * T * (B + 1) * G * D) (P + Qe) (FP.dmul (FP.ddiv (FP.dmul (FP.dmul (FP.ddiv (FP.dmul (FP.dadd k1 (4607182418800017408 : UInt64)) tf) (FP.dadd (FP.dmul k1 (FP.dadd (FP.dsub (4607182418800017408 : UInt64) b) (FP.ddiv (FP.dmul b dl) av))) tf)) (FP.dadd k3 (4607182418800017408 : UInt64))) qtf) (FP.dadd k3 qtf)) idf) := by
  have p1 : (2 : Int) ^ AE ≤ 2 ^ 3 := own_ple ae
  have p2 : (2 : Int) ^ (3 - AE) ≤ 2 ^ 3 := own_ple (by omega)
  have p3 : (0 : Int) < 2 ^ AE := Int.pow_pos (by decide)
  have p4 : (0 : Int) < 2 ^ (3 - AE) := Int.pow_pos (by decide)
  have p5 : (2 : Int) ^ P ≤ 2 ^ 18 := own_ple hP2
  have p6 : (0 : Int) < 2 ^ P := Int.pow_pos (by decide)
  have p7 : (2 : Int) ^ Qe ≤ 2 ^ 6 := own_ple hQ
  have p8 : (0 : Int) < 2 ^ Qe := Int.pow_pos (by decide)
  have n1 : (J * L).natAbs ≤ 4 * 15 := own_nb (by omega) (by omega)
  have n2 : ((4 - J) * 2 ^ AE).natAbs ≤ 4 * 8 := own_nb (by omega) (by omega)
  have n3 : (A * ((4 - J) * 2 ^ AE + J * L)).natAbs ≤ 7 * 92 := own_nb (by omega) (by omega)
  have e1 := own_dy_sub (own_dy_lift (own_dy_int own_D1) 2 (by omega)) h2 (by rw [show (1 : Int) * 2 ^ 2 = 4 by decide]; omega)
  rw [show (1 : Int) * 2 ^ 2 = 4 by decide] at e1
  have e2 := own_dy_mul h2 h7 (by omega) (by omega)
  have e3 := own_dy_div e2 h8 (by omega) (by omega)
  have e1' := own_dy_lift e1 AE (by omega)
  have e4 := own_dy_add e1' e3 (by omega)
  have e5 := own_dy_mul h1 e4 (by omega) (by omega)
  have e5' := own_dy_lift e5 (3 - AE) (by omega)
  rw [show 0 + (0 + 2 + AE) + (3 - AE) = 5 by omega] at e5'
  have e6 := own_dy_add h1 (own_dy_int own_D1) (by omega)
  have m1 : ((A + 1) * T).natAbs ≤ 8 * 262144 := own_nb (by omega) (by omega)
  have e7 := own_dy_mul e6 h4 (by omega) (by omega)
  have e8 := own_dy_add e5' h4 (by rw [hT]; omega)
  rw [hT] at e8
  have e8' := own_dy_low e8 hP (by omega)
  have e9 := own_dy_div e7 e8' (by omega) (by omega)
  rw [show 0 + 5 + (P - 5) = P by omega] at e9
  have e10 := own_dy_add h3 (own_dy_int own_D1) (by omega)
  have m2 : ((A + 1) * T * (B + 1)).natAbs ≤ 8 * 262144 * 8 := own_nb m1 (by omega)
  have e11 := own_dy_mul e9 e10 (by omega) (by omega)
  have m3 : ((A + 1) * T * (B + 1) * G).natAbs ≤ 8 * 262144 * 8 * 64 := own_nb m2 (by omega)
  have e12 := own_dy_mul e11 h5 (by omega) (by omega)
  have e13 := own_dy_add h3 h5 (by rw [hG]; omega)
  rw [hG] at e13
  have e14 := own_dy_div e12 e13 (by omega) (by omega)
  have m4 : ((A + 1) * T * (B + 1) * G * D).natAbs ≤ 8 * 262144 * 8 * 64 * 1024 := own_nb m3 d1
  have e15 := own_dy_mul e14 h6 (by omega) (by omega)
  exact ⟨own_dy_nn e1, own_dy_nn e2, own_dy_nn e3, own_dy_nn e4, own_dy_nn e5, own_dy_nn e6, own_dy_nn e7, own_dy_nn e8, own_dy_nn e9, own_dy_nn e10, own_dy_nn e11, own_dy_nn e12, own_dy_nn e13, own_dy_nn e14, own_dy_nn e15, e15⟩
theorem own_av {ae : Int32} (h0 : 0 ≤ ae.toInt) (h1 : ae.toInt < 4) : ∃ AE : Nat, AE ≤ 3 ∧ ((1 : Int64) <<< (ae &&& 0x3f).toInt64).toInt = 2 ^ AE ∧ ((8 : Int32) >>> (ae &&& 31)).toInt = 2 ^ (3 - AE) ∧ (2 : Int) ^ AE * 2 ^ (3 - AE) = 8 := by
  obtain ⟨k, hk, rfl⟩ := own_cases32 (n := 4) h0 h1
  match k, hk with
  | 0, _ => exact ⟨0, by decide, by decide, by decide, by decide⟩
  | 1, _ => exact ⟨1, by decide, by decide, by decide, by decide⟩
  | 2, _ => exact ⟨2, by decide, by decide, by decide, by decide⟩
  | 3, _ => exact ⟨3, by decide, by decide, by decide, by decide⟩
theorem own_tv {pv : Int32} (h0 : 0 ≤ pv.toInt) (h1 : pv.toInt < 11) : ∃ P : Nat, 5 ≤ P ∧ P ≤ 15 ∧ ((32 : Int64) <<< (pv &&& 0x3f).toInt64).toInt = 2 ^ P := by
  obtain ⟨k, hk, rfl⟩ := own_cases32 (n := 11) h0 h1
  match k, hk with
  | 0, _ => exact ⟨5, by decide, by decide, by decide⟩
  | 1, _ => exact ⟨6, by decide, by decide, by decide⟩
  | 2, _ => exact ⟨7, by decide, by decide, by decide⟩
  | 3, _ => exact ⟨8, by decide, by decide, by decide⟩
  | 4, _ => exact ⟨9, by decide, by decide, by decide⟩
  | 5, _ => exact ⟨10, by decide, by decide, by decide⟩
  | 6, _ => exact ⟨11, by decide, by decide, by decide⟩
  | 7, _ => exact ⟨12, by decide, by decide, by decide⟩
  | 8, _ => exact ⟨13, by decide, by decide, by decide⟩
  | 9, _ => exact ⟨14, by decide, by decide, by decide⟩
  | 10, _ => exact ⟨15, by decide, by decide, by decide⟩
theorem own_tw {pv : Int32} (h0 : 0 ≤ pv.toInt) (h1 : pv.toInt < 11) (h : ((32 : Int64) <<< (pv &&& 0x3f).toInt64).toInt ≤ 3584) : ∃ P : Nat, 5 ≤ P ∧ P ≤ 18 ∧ ((32 : Int64) <<< ((pv + (7 : Int32)) &&& 0x3f).toInt64).toInt = 2 ^ P ∧ (3584 : Int) < 2 ^ P := by
  obtain ⟨k, hk, rfl⟩ := own_cases32 (n := 11) h0 h1
  match k, hk with
  | 0, _ => exact ⟨12, by decide, by decide, by decide, by decide⟩
  | 1, _ => exact ⟨13, by decide, by decide, by decide, by decide⟩
  | 2, _ => exact ⟨14, by decide, by decide, by decide, by decide⟩
  | 3, _ => exact ⟨15, by decide, by decide, by decide, by decide⟩
  | 4, _ => exact ⟨16, by decide, by decide, by decide, by decide⟩
  | 5, _ => exact ⟨17, by decide, by decide, by decide, by decide⟩
  | 6, _ => exact ⟨18, by decide, by decide, by decide, by decide⟩
  | 7, _ => exact absurd h (by decide)
  | 8, _ => exact absurd h (by decide)
  | 9, _ => exact absurd h (by decide)
  | 10, _ => exact absurd h (by decide)
theorem own_qv {q : Int32} (h0 : 0 ≤ q.toInt) (h1 : q.toInt < 7) : ∃ P : Nat, P ≤ 6 ∧ ((1 : Int64) <<< (q &&& 0x3f).toInt64).toInt = 2 ^ P := by
  obtain ⟨k, hk, rfl⟩ := own_cases32 (n := 7) h0 h1
  match k, hk with
  | 0, _ => exact ⟨0, by decide, by decide⟩
  | 1, _ => exact ⟨1, by decide, by decide⟩
  | 2, _ => exact ⟨2, by decide, by decide⟩
  | 3, _ => exact ⟨3, by decide, by decide⟩
  | 4, _ => exact ⟨4, by decide, by decide⟩
  | 5, _ => exact ⟨5, by decide, by decide⟩
  | 6, _ => exact ⟨6, by decide, by decide⟩
theorem own_qw {q : Int32} (h0 : 0 ≤ q.toInt) (h1 : q.toInt < 7) (h : ((1 : Int64) <<< (q &&& 0x3f).toInt64).toInt ≤ 7) : ∃ P : Nat, P ≤ 6 ∧ ((1 : Int64) <<< ((q + (3 : Int32)) &&& 0x3f).toInt64).toInt = 2 ^ P ∧ (7 : Int) < 2 ^ P := by
  obtain ⟨k, hk, rfl⟩ := own_cases32 (n := 7) h0 h1
  match k, hk with
  | 0, _ => exact ⟨3, by decide, by decide, by decide⟩
  | 1, _ => exact ⟨4, by decide, by decide, by decide⟩
  | 2, _ => exact ⟨5, by decide, by decide, by decide⟩
  | 3, _ => exact absurd h (by decide)
  | 4, _ => exact absurd h (by decide)
  | 5, _ => exact absurd h (by decide)
  | 6, _ => exact absurd h (by decide)
theorem own_lv {k j dl ae : Int32} {AE : Nat} (a1 : 0 ≤ k.toInt) (a2 : k.toInt ≤ 7) (j1 : 0 ≤ j.toInt) (j2 : j.toInt ≤ 4) (l1 : 0 ≤ dl.toInt) (l2 : dl.toInt ≤ 15) (hae : AE ≤ 3) (h8 : ((8 : Int32) >>> (ae &&& 31)).toInt = 2 ^ (3 - AE)) (h9 : (2 : Int) ^ AE * 2 ^ (3 - AE) = 8) :
    ((k.toInt64) * (((32 : Int64) - ((8 : Int64) * (j.toInt64))) + (((j.toInt64) * (dl.toInt64)) * (((8 : Int32) >>> (ae &&& 31)).toInt64)))).toInt = k.toInt * ((4 - j.toInt) * 2 ^ AE + j.toInt * dl.toInt) * 2 ^ (3 - AE)
    ∧ 0 ≤ k.toInt * ((4 - j.toInt) * 2 ^ AE + j.toInt * dl.toInt) * 2 ^ (3 - AE) ∧ k.toInt * ((4 - j.toInt) * 2 ^ AE + j.toInt * dl.toInt) * 2 ^ (3 - AE) ≤ 3584 := by
  have p2 : (2 : Int) ^ (3 - AE) ≤ 2 ^ 3 := own_ple (by omega)
  have p4 : (0 : Int) < 2 ^ (3 - AE) := Int.pow_pos (by decide)
  have n1 : (j.toInt * dl.toInt).natAbs ≤ 4 * 15 := own_nb (by omega) (by omega)
  have n0 : 0 ≤ j.toInt * dl.toInt := Int.mul_nonneg j1 l1
  have e1 : ((8 : Int64) * (j.toInt64)).toInt = 8 * j.toInt := by rw [own_lmul (A := 8) (B := 4) (by decide) (by rw [c_i2l]; omega) (by decide), c_i2l]; rfl
  have e2 : ((32 : Int64) - ((8 : Int64) * (j.toInt64))).toInt = 32 - 8 * j.toInt := by rw [own_lsub (A := 32) (B := 32) (by decide) (by rw [e1]; omega) (by decide), e1]; rfl
  have e3 : ((j.toInt64) * (dl.toInt64)).toInt = j.toInt * dl.toInt := by rw [own_lmul (A := 4) (B := 15) (by rw [c_i2l]; omega) (by rw [c_i2l]; omega) (by decide), c_i2l, c_i2l]
  have n2 : (j.toInt * dl.toInt * 2 ^ (3 - AE)).natAbs ≤ 60 * 8 := own_nb n1 (by omega)
  have n4 : 0 ≤ j.toInt * dl.toInt * 2 ^ (3 - AE) := Int.mul_nonneg n0 (by omega)
  have e4 : (((j.toInt64) * (dl.toInt64)) * (((8 : Int32) >>> (ae &&& 31)).toInt64)).toInt = j.toInt * dl.toInt * 2 ^ (3 - AE) := by
    rw [own_lmul (A := 60) (B := 8) (by rw [e3]; exact n1) (by rw [c_i2l, h8]; omega) (by decide), e3, c_i2l, h8]
  have e5 : (((32 : Int64) - ((8 : Int64) * (j.toInt64))) + (((j.toInt64) * (dl.toInt64)) * (((8 : Int32) >>> (ae &&& 31)).toInt64))).toInt = 32 - 8 * j.toInt + j.toInt * dl.toInt * 2 ^ (3 - AE) := by
    rw [own_ladd (A := 32) (B := 480) (by rw [e2]; omega) (by rw [e4]; omega) (by decide), e2, e4]
  have e6 : 32 - 8 * j.toInt + j.toInt * dl.toInt * 2 ^ (3 - AE) = ((4 - j.toInt) * 2 ^ AE + j.toInt * dl.toInt) * 2 ^ (3 - AE) := by
    rw [Int.add_mul, Int.mul_assoc (4 - j.toInt), h9]; omega
  have e7 := own_lmul (x := k.toInt64) (y := ((32 : Int64) - ((8 : Int64) * (j.toInt64))) + (((j.toInt64) * (dl.toInt64)) * (((8 : Int32) >>> (ae &&& 31)).toInt64))) (A := 7) (B := 512) (by rw [c_i2l]; omega) (by rw [e5]; omega) (by decide)
  rw [c_i2l, e5] at e7
  have e8 : k.toInt * ((4 - j.toInt) * 2 ^ AE + j.toInt * dl.toInt) * 2 ^ (3 - AE) = k.toInt * (32 - 8 * j.toInt + j.toInt * dl.toInt * 2 ^ (3 - AE)) := by rw [Int.mul_assoc, ← e6]
  rw [e8]
  have n5 : (k.toInt * (32 - 8 * j.toInt + j.toInt * dl.toInt * 2 ^ (3 - AE))).natAbs ≤ 7 * 512 := own_nb (by omega) (by omega)
  have n6 : 0 ≤ k.toInt * (32 - 8 * j.toInt + j.toInt * dl.toInt * 2 ^ (3 - AE)) := Int.mul_nonneg a1 (by omega)
  exact ⟨e7, n6, by omega⟩
theorem own_lemax {x : UInt64} (h : Fin64 x) (h0 : (x &&& 0x7fffffffffffffff) = x) : ¬ ((0 : Int32) < (cmpValue (FP.dcmp x (9218868437227405311 : UInt64)) .g)) := by
  have h1 := (le_max_iff h.noNaN).mpr h
  rw [relLe_iff, h0] at h1
  rcases h1 with q | q
  · rw [show FP.dcmp x (9218868437227405311 : UInt64) = some .lt from q]; decide
  · rw [show FP.dcmp x (9218868437227405311 : UInt64) = some .eq from q]; decide
theorem own_km {k : Int32} (h0 : 0 ≤ k.toInt) (h1 : k.toInt < 8) : ¬ ((0 : Int32) < (cmpValue (FP.dcmp (FP.i2d k) (9218868437227405311 : UInt64)) .g)) := by
  obtain ⟨k, hk, rfl⟩ := own_cases32 (n := 8) h0 h1
  match k, hk with
  | 0, _ => decide +kernel
  | 1, _ => decide +kernel
  | 2, _ => decide +kernel
  | 3, _ => decide +kernel
  | 4, _ => decide +kernel
  | 5, _ => decide +kernel
  | 6, _ => decide +kernel
  | 7, _ => decide +kernel
theorem own_jb {k : Int32} (h0 : 0 ≤ k.toInt) (h1 : k.toInt < 5) : ¬ ((cmpValue (FP.dcmp (FP.ddiv (FP.i2d k) (4616189618054758400 : UInt64)) (0 : UInt64)) .l) < (0 : Int32)) ∧ ¬ ((0 : Int32) < (cmpValue (FP.dcmp (FP.ddiv (FP.i2d k) (4616189618054758400 : UInt64)) (4607182418800017408 : UInt64)) .g)) := by
  obtain ⟨k, hk, rfl⟩ := own_cases32 (n := 5) h0 h1
  match k, hk with
  | 0, _ => decide +kernel
  | 1, _ => decide +kernel
  | 2, _ => decide +kernel
  | 3, _ => decide +kernel
  | 4, _ => decide +kernel
theorem own_tx {pv : Int32} {lv tv tw tx : Int64} (h0 : 0 ≤ pv.toInt) (h1 : pv.toInt < 11) (hl : lv.toInt ≤ 3584) (htv : tv = ((32 : Int64) <<< (pv &&& 0x3f).toInt64)) (htw : tw = ((32 : Int64) <<< ((pv + (7 : Int32)) &&& 0x3f).toInt64)) (htx : tx = if (0 : Int32) < (lcmpW tv lv) then tv else tw) : ∃ P : Nat, 5 ≤ P ∧ P ≤ 18 ∧ tx.toInt = 2 ^ P ∧ lv.toInt < tx.toInt := by
  by_cases hT : (0 : Int32) < (lcmpW tv lv)
  · rw [if_pos hT] at htx
    have hTT : lv.toInt < tv.toInt := Int64.lt_iff_toInt_lt.mp ((lw_gt _ _).mp hT)
    obtain ⟨P, hP1, hP2, hP3⟩ := own_tv (pv := pv) h0 h1
    rw [← htv] at hP3
    exact ⟨P, hP1, by omega, by rw [htx]; exact hP3, by rw [htx]; exact hTT⟩
  · rw [if_neg hT] at htx
    have hTT : ¬ lv.toInt < tv.toInt := fun q => hT ((lw_gt _ _).mpr (Int64.lt_iff_toInt_lt.mpr q))
    obtain ⟨P, hP1, hP2, hP3, hP4⟩ := own_tw (pv := pv) h0 h1 (by rw [← htv]; omega)
    rw [← htw] at hP3
    exact ⟨P, hP1, hP2, by rw [htx]; exact hP3, by rw [htx, hP3]; omega⟩
theorem own_qx {q k3 : Int32} {qv qw qx : Int64} (h0 : 0 ≤ q.toInt) (h1 : q.toInt < 7) (hk : k3.toInt ≤ 7) (hqv : qv = ((1 : Int64) <<< (q &&& 0x3f).toInt64)) (hqw : qw = ((1 : Int64) <<< ((q + (3 : Int32)) &&& 0x3f).toInt64)) (hqx : qx = if (0 : Int32) < (lcmpW qv (k3.toInt64)) then qv else qw) : ∃ P : Nat, P ≤ 6 ∧ qx.toInt = 2 ^ P ∧ k3.toInt < qx.toInt := by
  by_cases hT : (0 : Int32) < (lcmpW qv (k3.toInt64))
  · rw [if_pos hT] at hqx
    have hTT := Int64.lt_iff_toInt_lt.mp ((lw_gt _ _).mp hT)
    rw [c_i2l] at hTT
    obtain ⟨P, hP1, hP3⟩ := own_qv (q := q) h0 h1
    rw [← hqv] at hP3
    exact ⟨P, hP1, by rw [hqx]; exact hP3, by rw [hqx]; exact hTT⟩
  · rw [if_neg hT] at hqx
    have hTT : ¬ k3.toInt < qv.toInt := fun z => hT ((lw_gt _ _).mpr (Int64.lt_iff_toInt_lt.mpr (by rw [c_i2l]; exact z)))
    obtain ⟨P, hP1, hP3, hP4⟩ := own_qw (q := q) h0 h1 (by rw [← hqv]; omega)
    rw [← hqw] at hP3
    exact ⟨P, hP1, by rw [hqx]; exact hP3, by rw [hqx, hP3]; omega⟩
theorem own_bm {k1v k3v jv dlv iv : Int32} {av lv tv fv qv gv nv dn : Int64} {AE P Qe : Nat} (a1 : 0 ≤ k1v.toInt) (a2 : k1v.toInt ≤ 7) (j1 : 0 ≤ jv.toInt) (j2 : jv.toInt ≤ 4) (b1 : 0 ≤ k3v.toInt) (b2 : k3v.toInt ≤ 7) (l1 : 0 ≤ dlv.toInt) (l2 : dlv.toInt ≤ 15) (d1 : iv.toInt.natAbs ≤ 1024)
    (ae : AE ≤ 3) (hav : av.toInt = 2 ^ AE) (hl : lv.toInt = k1v.toInt * ((4 - jv.toInt) * 2 ^ AE + jv.toInt * dlv.toInt) * 2 ^ (3 - AE)) (hl0 : 0 ≤ lv.toInt) (hP : 5 ≤ P) (hP2 : P ≤ 18) (hQ : Qe ≤ 6) (htv : tv.toInt = 2 ^ P) (hqv : qv.toInt = 2 ^ Qe) (hlt : lv.toInt < tv.toInt) (hqt : k3v.toInt < qv.toInt)
    (hf : fv = tv - lv) (hg : gv = qv - k3v.toInt64) (hn : nv = (((((k1v + (1 : Int32)).toInt64) * fv) * ((k3v + (1 : Int32)).toInt64)) * gv) * (iv.toInt64)) (hd : dn = tv * qv) :
    (NoNaN64 (FP.dsub (4607182418800017408 : UInt64) (FP.ddiv (FP.i2d jv) (4616189618054758400 : UInt64))) ∧ NoNaN64 (FP.dmul (FP.ddiv (FP.i2d jv) (4616189618054758400 : UInt64)) (FP.i2d dlv)) ∧ NoNaN64 (FP.ddiv (FP.dmul (FP.ddiv (FP.i2d jv) (4616189618054758400 : UInt64)) (FP.i2d dlv)) (FP.l2d av)) ∧ NoNaN64 (FP.dadd (FP.dsub (4607182418800017408 : UInt64) (FP.ddiv (FP.i2d jv) (4616189618054758400 : UInt64))) (FP.ddiv (FP.dmul (FP.ddiv (FP.i2d jv) (4616189618054758400 : UInt64)) (FP.i2d dlv)) (FP.l2d av))) ∧ NoNaN64 (FP.dmul (FP.i2d k1v) (FP.dadd (FP.dsub (4607182418800017408 : UInt64) (FP.ddiv (FP.i2d jv) (4616189618054758400 : UInt64))) (FP.ddiv (FP.dmul (FP.ddiv (FP.i2d jv) (4616189618054758400 : UInt64)) (FP.i2d dlv)) (FP.l2d av)))) ∧ NoNaN64 (FP.dadd (FP.i2d k1v) (4607182418800017408 : UInt64)) ∧ NoNaN64 (FP.dmul (FP.dadd (FP.i2d k1v) (4607182418800017408 : UInt64)) (FP.ddiv (FP.l2d fv) (4629700416936869888 : UInt64))) ∧ NoNaN64 (FP.dadd (FP.dmul (FP.i2d k1v) (FP.dadd (FP.dsub (4607182418800017408 : UInt64) (FP.ddiv (FP.i2d jv) (4616189618054758400 : UInt64))) (FP.ddiv (FP.dmul (FP.ddiv (FP.i2d jv) (4616189618054758400 : UInt64)) (FP.i2d dlv)) (FP.l2d av)))) (FP.ddiv (FP.l2d fv) (4629700416936869888 : UInt64))) ∧ NoNaN64 (FP.ddiv (FP.dmul (FP.dadd (FP.i2d k1v) (4607182418800017408 : UInt64)) (FP.ddiv (FP.l2d fv) (4629700416936869888 : UInt64))) (FP.dadd (FP.dmul (FP.i2d k1v) (FP.dadd (FP.dsub (4607182418800017408 : UInt64) (FP.ddiv (FP.i2d jv) (4616189618054758400 : UInt64))) (FP.ddiv (FP.dmul (FP.ddiv (FP.i2d jv) (4616189618054758400 : UInt64)) (FP.i2d dlv)) (FP.l2d av)))) (FP.ddiv (FP.l2d fv) (4629700416936869888 : UInt64)))) ∧ NoNaN64 (FP.dadd (FP.i2d k3v) (4607182418800017408 : UInt64)) ∧ NoNaN64 (FP.dmul (FP.ddiv (FP.dmul (FP.dadd (FP.i2d k1v) (4607182418800017408 : UInt64)) (FP.ddiv (FP.l2d fv) (4629700416936869888 : UInt64))) (FP.dadd (FP.dmul (FP.i2d k1v) (FP.dadd (FP.dsub (4607182418800017408 : UInt64) (FP.ddiv (FP.i2d jv) (4616189618054758400 : UInt64))) (FP.ddiv (FP.dmul (FP.ddiv (FP.i2d jv) (4616189618054758400 : UInt64)) (FP.i2d dlv)) (FP.l2d av)))) (FP.ddiv (FP.l2d fv) (4629700416936869888 : UInt64)))) (FP.dadd (FP.i2d k3v) (4607182418800017408 : UInt64))) ∧ NoNaN64 (FP.dmul (FP.dmul (FP.ddiv (FP.dmul (FP.dadd (FP.i2d k1v) (4607182418800017408 : UInt64)) (FP.ddiv (FP.l2d fv) (4629700416936869888 : UInt64))) (FP.dadd (FP.dmul (FP.i2d k1v) (FP.dadd (FP.dsub (4607182418800017408 : UInt64) (FP.ddiv (FP.i2d jv) (4616189618054758400 : UInt64))) (FP.ddiv (FP.dmul (FP.ddiv (FP.i2d jv) (4616189618054758400 : UInt64)) (FP.i2d dlv)) (FP.l2d av)))) (FP.ddiv (FP.l2d fv) (4629700416936869888 : UInt64)))) (FP.dadd (FP.i2d k3v) (4607182418800017408 : UInt64))) (FP.l2d gv)) ∧ NoNaN64 (FP.dadd (FP.i2d k3v) (FP.l2d gv)) ∧ NoNaN64 (FP.ddiv (FP.dmul (FP.dmul (FP.ddiv (FP.dmul (FP.dadd (FP.i2d k1v) (4607182418800017408 : UInt64)) (FP.ddiv (FP.l2d fv) (4629700416936869888 : UInt64))) (FP.dadd (FP.dmul (FP.i2d k1v) (FP.dadd (FP.dsub (4607182418800017408 : UInt64) (FP.ddiv (FP.i2d jv) (4616189618054758400 : UInt64))) (FP.ddiv (FP.dmul (FP.ddiv (FP.i2d jv) (4616189618054758400 : UInt64)) (FP.i2d dlv)) (FP.l2d av)))) (FP.ddiv (FP.l2d fv) (4629700416936869888 : UInt64)))) (FP.dadd (FP.i2d k3v) (4607182418800017408 : UInt64))) (FP.l2d gv)) (FP.dadd (FP.i2d k3v) (FP.l2d gv))) ∧ NoNaN64 (FP.dmul (FP.ddiv (FP.dmul (FP.dmul (FP.ddiv (FP.dmul (FP.dadd (FP.i2d k1v) (4607182418800017408 : UInt64)) (FP.ddiv (FP.l2d fv) (4629700416936869888 : UInt64))) (FP.dadd (FP.dmul (FP.i2d k1v) (FP.dadd (FP.dsub (4607182418800017408 : UInt64) (FP.ddiv (FP.i2d jv) (4616189618054758400 : UInt64))) (FP.ddiv (FP.dmul (FP.ddiv (FP.i2d jv) (4616189618054758400 : UInt64)) (FP.i2d dlv)) (FP.l2d av)))) (FP.ddiv (FP.l2d fv) (4629700416936869888 : UInt64)))) (FP.dadd (FP.i2d k3v) (4607182418800017408 : UInt64))) (FP.l2d gv)) (FP.dadd (FP.i2d k3v) (FP.l2d gv))) (FP.i2d iv))) ∧ NoNaN64 (FP.ddiv (FP.l2d fv) (4629700416936869888 : UInt64)) ∧ NoNaN64 (FP.ddiv (FP.i2d jv) (4616189618054758400 : UInt64)) ∧ NoNaN64 (FP.ddiv (FP.l2d nv) (FP.l2d dn)) ∧ cmpValue (FP.dcmp (FP.ddiv (FP.l2d fv) (4629700416936869888 : UInt64)) (0 : UInt64)) .l = 1 ∧ cmpValue (FP.dcmp (FP.l2d gv) (0 : UInt64)) .l = 1 ∧ cmpValue (FP.dcmp (FP.dmul (FP.ddiv (FP.dmul (FP.dmul (FP.ddiv (FP.dmul (FP.dadd (FP.i2d k1v) (4607182418800017408 : UInt64)) (FP.ddiv (FP.l2d fv) (4629700416936869888 : UInt64))) (FP.dadd (FP.dmul (FP.i2d k1v) (FP.dadd (FP.dsub (4607182418800017408 : UInt64) (FP.ddiv (FP.i2d jv) (4616189618054758400 : UInt64))) (FP.ddiv (FP.dmul (FP.ddiv (FP.i2d jv) (4616189618054758400 : UInt64)) (FP.i2d dlv)) (FP.l2d av)))) (FP.ddiv (FP.l2d fv) (4629700416936869888 : UInt64)))) (FP.dadd (FP.i2d k3v) (4607182418800017408 : UInt64))) (FP.l2d gv)) (FP.dadd (FP.i2d k3v) (FP.l2d gv))) (FP.i2d iv)) (FP.ddiv (FP.l2d nv) (FP.l2d dn))) .l = 0 := by
  have p5 : (2 : Int) ^ P ≤ 2 ^ 18 := own_ple hP2
  have p7 : (2 : Int) ^ Qe ≤ 2 ^ 6 := own_ple hQ
  have p3 : (0 : Int) < 2 ^ AE := Int.pow_pos (by decide)
  have p1 : (2 : Int) ^ AE ≤ 2 ^ 3 := own_ple ae
  have ef : fv.toInt = tv.toInt - lv.toInt := by rw [hf, own_lsub (A := 262144) (B := 262144) (by omega) (by omega) (by decide)]
  have eg : gv.toInt = qv.toInt - k3v.toInt := by rw [hg, own_lsub (A := 64) (B := 64) (by omega) (by rw [c_i2l]; omega) (by decide), c_i2l]
  have ek1 : ((k1v + (1 : Int32)).toInt64).toInt = k1v.toInt + 1 := by
    have q := c_iadd k1v 1
    rw [show (1 : Int32).toInt = 1 from rfl] at q
    have := rng32 (k1v + 1)
    rw [c_i2l]; omega
  have ek3 : ((k3v + (1 : Int32)).toInt64).toInt = k3v.toInt + 1 := by
    have q := c_iadd k3v 1
    rw [show (1 : Int32).toInt = 1 from rfl] at q
    have := rng32 (k3v + 1)
    rw [c_i2l]; omega
  have m1 : ((k1v.toInt + 1) * fv.toInt).natAbs ≤ 8 * 262144 := own_nb (by omega) (by omega)
  have x1 : (((k1v + (1 : Int32)).toInt64) * fv).toInt = (k1v.toInt + 1) * fv.toInt := by rw [own_lmul (A := 8) (B := 262144) (by rw [ek1]; omega) (by omega) (by decide), ek1]
  have m2 : ((k1v.toInt + 1) * fv.toInt * (k3v.toInt + 1)).natAbs ≤ 8 * 262144 * 8 := own_nb m1 (by omega)
  have x2 : ((((k1v + (1 : Int32)).toInt64) * fv) * ((k3v + (1 : Int32)).toInt64)).toInt = (k1v.toInt + 1) * fv.toInt * (k3v.toInt + 1) := by rw [own_lmul (A := 8 * 262144) (B := 8) (by rw [x1]; exact m1) (by rw [ek3]; omega) (by decide), x1, ek3]
  have m3 : ((k1v.toInt + 1) * fv.toInt * (k3v.toInt + 1) * gv.toInt).natAbs ≤ 8 * 262144 * 8 * 64 := own_nb m2 (by omega)
  have x3 : (((((k1v + (1 : Int32)).toInt64) * fv) * ((k3v + (1 : Int32)).toInt64)) * gv).toInt = (k1v.toInt + 1) * fv.toInt * (k3v.toInt + 1) * gv.toInt := by rw [own_lmul (A := 8 * 262144 * 8) (B := 64) (by rw [x2]; exact m2) (by omega) (by decide), x2]
  have m4 : ((k1v.toInt + 1) * fv.toInt * (k3v.toInt + 1) * gv.toInt * iv.toInt).natAbs ≤ 8 * 262144 * 8 * 64 * 1024 := own_nb m3 d1
  have x4 : nv.toInt = (k1v.toInt + 1) * fv.toInt * (k3v.toInt + 1) * gv.toInt * iv.toInt := by rw [hn, own_lmul (A := 8 * 262144 * 8 * 64) (B := 1024) (by rw [x3]; exact m3) (by rw [c_i2l]; exact d1) (by decide), x3, c_i2l]
  have p9 : (0 : Int) < 2 ^ P := Int.pow_pos (by decide)
  have p10 : (0 : Int) < 2 ^ Qe := Int.pow_pos (by decide)
  have m5 : (tv.toInt * qv.toInt).natAbs ≤ 262144 * 64 := own_nb (by omega) (by omega)
  have x5 : dn.toInt = 2 ^ (P + Qe) := by rw [hd, own_lmul (A := 262144) (B := 64) (by omega) (by omega) (by decide), htv, hqv, ← Int.pow_add]
  have x5' : dn.toInt = tv.toInt * qv.toInt := by rw [hd, own_lmul (A := 262144) (B := 64) (by omega) (by omega) (by decide)]
  have Dk1 := own_dy_int (FP.Core.i2d_int k1v)
  have Dk3 := own_dy_int (FP.Core.i2d_int k3v)
  have Ddl := own_dy_int (FP.Core.i2d_int dlv)
  have Did := own_dy_int (FP.Core.i2d_int iv)
  have Dav : own_Dy (2 ^ AE) 0 (FP.l2d av) := hav ▸ own_dy_int (FP.Core.l2d_int (a := av) (by omega))
  have Dg := own_dy_int (FP.Core.l2d_int (a := gv) (by omega))
  have Db : own_Dy jv.toInt 2 (FP.ddiv (FP.i2d jv) (4616189618054758400 : UInt64)) := own_dy_div (k := 2) (own_dy_int (FP.Core.i2d_int jv)) (own_dy_int own_D4) (by omega) (by omega)
  have Df : own_Dy fv.toInt 5 (FP.ddiv (FP.l2d fv) (4629700416936869888 : UInt64)) := own_dy_div (k := 5) (own_dy_int (FP.Core.l2d_int (a := fv) (by omega))) (own_dy_int own_D32) (by omega) (by omega)
  have Dn : own_Dy nv.toInt (P + Qe) (FP.ddiv (FP.l2d nv) (FP.l2d dn)) := by
    have q := own_dy_div (k := P + Qe) (own_dy_int (FP.Core.l2d_int (a := nv) (by rw [x4]; omega))) (x5 ▸ own_dy_int (FP.Core.l2d_int (a := dn) (by rw [x5']; omega))) (by rw [x4]; omega) (by omega)
    rw [Nat.zero_add] at q
    exact q
  obtain ⟨y1, y2, y3, y4, y5, y6, y7, y8, y9, y10, y11, y12, y13, y14, y15, y16⟩ := own_wt Dk1 Db Dk3 Df Dg Did Ddl Dav a1 a2 j1 j2 b1 b2 (by omega) (by omega) (by omega) (by omega) d1 l1 l2 ae hP hP2 hQ (by rw [← hl, ef, htv]; omega) (by rw [eg, hqv]; omega)
  refine ⟨⟨y1, y2, y3, y4, y5, y6, y7, y8, y9, y10, y11, y12, y13, y14, y15⟩, own_dy_nn Df, own_dy_nn Db, own_dy_nn Dn, ?_, ?_, ?_⟩
  · have u : (0 : Int) < fv.toInt * 2 ^ (1074 - 5) := Int.mul_pos (by omega) (Int.pow_pos (by decide))
    have z := own_int own_D0
    rw [Int.zero_mul] at z
    rw [own_cmpV Df z, if_neg (Int.not_lt.mpr (Int.le_of_lt u)), if_neg (Int.ne_of_gt u)]
  · rw [own_icmp (FP.Core.l2d_int (a := gv) (by omega)) own_D0, if_neg (by omega), if_neg (by omega)]
  · exact own_eqV y16 Dn (by rw [x4]) .l
theorem d2_0 : decode jdk_30_method_1_code 0 = .ok (.aload_n 0, 1) := by decide +kernel
theorem d2_1 : decode jdk_30_method_1_code 1 = .ok (.invokespecial 1, 3) := by decide +kernel
theorem d2_4 : decode jdk_30_method_1_code 4 = .ok (.return_, 1) := by decide +kernel
theorem pn0 : plainName "java/lang/Record" = true := by first | (simp [plainName, overriddenIn]; done) | decide +kernel
theorem efm2 (m : MethodId) (r0 : Addr) : entryFrame m #[(.ref r0)] 1 = mkF m 0 #[.val (.ref r0)] [] := by first | (simp [entryFrame, mkF, argsToLocals, Value.category]; done) | rfl
def Qm2 (Z : State) (r0 : Addr) (h0 : Heap) (n0 : Nat) (v : Option Value) (h : Heap) (L : List Loc) : Prop := v = none ∧ Fr n0 L ∧ (h = h0)
set_option maxRecDepth 65536 in
set_option maxHeartbeats 40000000 in
theorem rmm2 (l : Launch) (Z : State) (a0 : Array Value) (hw : ∀ d ∈ tables_1, d.before a0 Z = true) (ws : List Jvm.Cond) (r0 : Addr) (h0 : Heap) (n0 : Nat) (Z0 : n0 ≤ h0.size)  :
    MetFree l (⟨"java/lang/Record", "<init>", "()V"⟩ : MethodName) (head1 (Jvm.Cond.code (⟨"java/lang/Record", "<init>", "()V"⟩ : MethodName) jdk_30_method_1_code 1 none :: ws) ({ frames := 1, cells := 0, slots := 0, locals := 12 } : Room)) (fun a U => a = #[(.ref r0)] ∧ Z.Warmed39 U.vm ∧ U.heap = h0) (fun _ _ _ _ _ => True) (fun _ U o U' => ∃ v L, o = .returned v ∧ Qm2 Z r0 h0 n0 v U'.heap L ∧ FrameEnd U o U' L ({ frames := 1, cells := 0, slots := 0, locals := 12 } : Room).cells ({ frames := 1, cells := 0, slots := 0, locals := 12 } : Room).slots) := by
  refine MetFree.of_bodySF (plainFor_of_name pn0) hisR ?_
  intro p e s m args below meth c s₁ Bd hml0 hP hK
  obtain ⟨rfl, hZ, hh⟩ := hP
  have hx := Bd.exec
  have hby := Bd.bytes
  have hml : c.maxLocals = 1 := hml0
  have hown : s.vm.findClass "java/lang/Record" = some m.cls := findClass_of_methodNamed Bd.named
  have hnm := (name_of_methodNamed Bd.named Bd.method).1
  have X0 : Stand p l e ({ frames := 1, cells := 0, slots := 0, locals := 12 } : Room) s m #[(.ref r0)] below meth c s₁ [] 0 0 := Stand.of_body Bd
  have e0 : s₁.heap = h0 := by rw [← hh, Bd.state]; rfl
  have N0 := Fr.nil n0
  have pre0 : ∀ t, Steps p.tables e below (s₁.setTop (mkF m 0 #[.val (.ref r0)] [])) t → Steps p.tables e below (s₁.setTop (entryFrame m #[(.ref r0)] 1)) t := fun t k => castTop (efm2 m r0) k
  obtain ⟨T101, X101, e101, st101⟩ := initO X0 hx hZ hown (own_w hw 15 rfl) (own_w hw 16 rfl) (own_w hw 17 rfl) e0 (g := (mkF m 1 #[.val (.ref r0)] [(.ref r0)])) rfl (by rw [hml]; rfl) rfl (hb hby d2_1) (by decide) (W := 0) (by show 2 * 0 + _ ≤ _; exact Nat.le_of_eq rfl) (by decide)
  obtain ⟨fs, hr, hrun, hended, hW, hsame⟩ := X101.leave (v := none) (fun _ => rfl)
  refine ⟨_, _, pre0 _ ?_, hrun, hended, _, _, rfl, ?_, ⟨_, rfl⟩, hW, hsame.mono (by decide) (by decide)⟩
  · show own_S p e below s₁ m 0 #[oR r0] [] _
    refine XS.aloadN X0.here hx rfl (hb hby d2_0) rfl rfl ?_
    show own_S p e below s₁ m 1 #[oR r0] [(.ref r0)] _
    refine st101 _ ?_
    show own_S p e below T101 m 4 #[oR r0] [] _
    exact X101.returnOut hx Bd.returns (hb hby d2_4) hr
  · show Qm2 Z r0 h0 n0 _ T101.heap _
    rw [e101]
    exact ⟨rfl, N0, rfl⟩
theorem d7_0 : decode jdk_18_method_1_code 0 = .ok (.aload_n 0, 1) := by decide +kernel
theorem d7_1 : decode jdk_18_method_1_code 1 = .ok (.invokespecial 1, 3) := by decide +kernel
theorem d7_4 : decode jdk_18_method_1_code 4 = .ok (.return_, 1) := by decide +kernel
theorem pn1 : plainName "java/lang/Number" = true := by first | (simp [plainName, overriddenIn]; done) | decide +kernel
theorem efm7 (m : MethodId) (r0 : Addr) : entryFrame m #[(.ref r0)] 1 = mkF m 0 #[.val (.ref r0)] [] := by first | (simp [entryFrame, mkF, argsToLocals, Value.category]; done) | rfl
def Qm7 (Z : State) (r0 : Addr) (h0 : Heap) (n0 : Nat) (v : Option Value) (h : Heap) (L : List Loc) : Prop := v = none ∧ Fr n0 L ∧ (h = h0)
set_option maxRecDepth 65536 in
set_option maxHeartbeats 40000000 in
theorem rmm7 (l : Launch) (Z : State) (a0 : Array Value) (hw : ∀ d ∈ tables_1, d.before a0 Z = true) (ws : List Jvm.Cond) (r0 : Addr) (h0 : Heap) (n0 : Nat) (Z0 : n0 ≤ h0.size)  :
    MetFree l (⟨"java/lang/Number", "<init>", "()V"⟩ : MethodName) (head1 (Jvm.Cond.code (⟨"java/lang/Number", "<init>", "()V"⟩ : MethodName) jdk_18_method_1_code 1 none :: ws) ({ frames := 1, cells := 0, slots := 0, locals := 12 } : Room)) (fun a U => a = #[(.ref r0)] ∧ Z.Warmed39 U.vm ∧ U.heap = h0) (fun _ _ _ _ _ => True) (fun _ U o U' => ∃ v L, o = .returned v ∧ Qm7 Z r0 h0 n0 v U'.heap L ∧ FrameEnd U o U' L ({ frames := 1, cells := 0, slots := 0, locals := 12 } : Room).cells ({ frames := 1, cells := 0, slots := 0, locals := 12 } : Room).slots) := by
  refine MetFree.of_bodySF (plainFor_of_name pn1) hisR ?_
  intro p e s m args below meth c s₁ Bd hml0 hP hK
  obtain ⟨rfl, hZ, hh⟩ := hP
  have hx := Bd.exec
  have hby := Bd.bytes
  have hml : c.maxLocals = 1 := hml0
  have hown : s.vm.findClass "java/lang/Number" = some m.cls := findClass_of_methodNamed Bd.named
  have hnm := (name_of_methodNamed Bd.named Bd.method).1
  have X0 : Stand p l e ({ frames := 1, cells := 0, slots := 0, locals := 12 } : Room) s m #[(.ref r0)] below meth c s₁ [] 0 0 := Stand.of_body Bd
  have e0 : s₁.heap = h0 := by rw [← hh, Bd.state]; rfl
  have N0 := Fr.nil n0
  have pre0 : ∀ t, Steps p.tables e below (s₁.setTop (mkF m 0 #[.val (.ref r0)] [])) t → Steps p.tables e below (s₁.setTop (entryFrame m #[(.ref r0)] 1)) t := fun t k => castTop (efm7 m r0) k
  obtain ⟨T101, X101, e101, st101⟩ := initO X0 hx hZ hown (own_w hw 45 rfl) (own_w hw 16 rfl) (own_w hw 17 rfl) e0 (g := (mkF m 1 #[.val (.ref r0)] [(.ref r0)])) rfl (by rw [hml]; rfl) rfl (hb hby d7_1) (by decide) (W := 0) (by show 2 * 0 + _ ≤ _; exact Nat.le_of_eq rfl) (by decide)
  obtain ⟨fs, hr, hrun, hended, hW, hsame⟩ := X101.leave (v := none) (fun _ => rfl)
  refine ⟨_, _, pre0 _ ?_, hrun, hended, _, _, rfl, ?_, ⟨_, rfl⟩, hW, hsame.mono (by decide) (by decide)⟩
  · show own_S p e below s₁ m 0 #[oR r0] [] _
    refine XS.aloadN X0.here hx rfl (hb hby d7_0) rfl rfl ?_
    show own_S p e below s₁ m 1 #[oR r0] [(.ref r0)] _
    refine st101 _ ?_
    show own_S p e below T101 m 4 #[oR r0] [] _
    exact X101.returnOut hx Bd.returns (hb hby d7_4) hr
  · show Qm7 Z r0 h0 n0 _ T101.heap _
    rw [e101]
    exact ⟨rfl, N0, rfl⟩
theorem pd0 : parseMethodDescriptor "()V" = some ⟨[], none⟩ := by decide +kernel
theorem d6_0 : decode jdk_117_method_9_code 0 = .ok (.aload_n 0, 1) := by decide +kernel
theorem d6_1 : decode jdk_117_method_9_code 1 = .ok (.invokespecial 113, 3) := by decide +kernel
theorem d6_4 : decode jdk_117_method_9_code 4 = .ok (.aload_n 0, 1) := by decide +kernel
theorem d6_5 : decode jdk_117_method_9_code 5 = .ok (.dload_n 1, 1) := by decide +kernel
theorem d6_6 : decode jdk_117_method_9_code 6 = .ok (.putfield 118, 3) := by decide +kernel
theorem d6_9 : decode jdk_117_method_9_code 9 = .ok (.return_, 1) := by decide +kernel
theorem pn2 : plainName "java/lang/Double" = true := by first | (simp [plainName, overriddenIn]; done) | decide +kernel
theorem efm6 (m : MethodId) (r0 : Addr) (d1 : UInt64) : entryFrame m #[(.ref r0), (.double d1)] 3 = mkF m 0 #[.val (.ref r0), .val (.double d1), .second] [] := by first | (simp [entryFrame, mkF, argsToLocals, Value.category]; done) | rfl
def Qm6 (Z : State) (r0 : Addr) (d1 : UInt64) (u0 : Value) (h0 : Heap) (n0 : Nat) (v : Option Value) (h : Heap) (L : List Loc) : Prop := v = none ∧ Fr n0 L ∧ (Keep h0 h [r0]) ∧ (Exa Z h r0 "java/lang/Double") ∧ (Fld Z h r0 "java/lang/Double" "value" "D" (.double d1))
set_option maxRecDepth 65536 in
set_option maxHeartbeats 40000000 in
theorem rmm6 (l : Launch) (Z : State) (a0 : Array Value) (hw : ∀ d ∈ tables_1, d.before a0 Z = true) (ws : List Jvm.Cond) (r0 : Addr) (d1 : UInt64) (u0 : Value) (h0 : Heap) (n0 : Nat) (Z0 : n0 ≤ h0.size) (F_value_r0 : Fld Z h0 r0 "java/lang/Double" "value" "D" u0) (E_r0 : Exa Z h0 r0 "java/lang/Double") (g_r0 : n0 ≤ r0) :
    MetFree l (⟨"java/lang/Double", "<init>", "(D)V"⟩ : MethodName) (head1 (Jvm.Cond.code (⟨"java/lang/Double", "<init>", "(D)V"⟩ : MethodName) jdk_117_method_9_code 3 none :: ws) ({ frames := 2, cells := 0, slots := 0, locals := 24 } : Room)) (fun a U => a = #[(.ref r0), (.double d1)] ∧ Z.Warmed39 U.vm ∧ U.heap = h0) (fun _ _ _ _ _ => True) (fun _ U o U' => ∃ v L, o = .returned v ∧ Qm6 Z r0 d1 u0 h0 n0 v U'.heap L ∧ FrameEnd U o U' L ({ frames := 2, cells := 0, slots := 0, locals := 24 } : Room).cells ({ frames := 2, cells := 0, slots := 0, locals := 24 } : Room).slots) := by
  refine MetFree.of_bodySF (plainFor_of_name pn2) hisR ?_
  intro p e s m args below meth c s₁ Bd hml0 hP hK
  obtain ⟨rfl, hZ, hh⟩ := hP
  have hx := Bd.exec
  have hby := Bd.bytes
  have hml : c.maxLocals = 3 := hml0
  have hown : s.vm.findClass "java/lang/Double" = some m.cls := findClass_of_methodNamed Bd.named
  have hnm := (name_of_methodNamed Bd.named Bd.method).1
  have X0 : Stand p l e ({ frames := 2, cells := 0, slots := 0, locals := 24 } : Room) s m #[(.ref r0), (.double d1)] below meth c s₁ [] 0 0 := Stand.of_body Bd
  have e0 : s₁.heap = h0 := by rw [← hh, Bd.state]; rfl
  have N0 := Fr.nil n0
  have pre0 : ∀ t, Steps p.tables e below (s₁.setTop (mkF m 0 #[.val (.ref r0), .val (.double d1), .second] [])) t → Steps p.tables e below (s₁.setTop (entryFrame m #[(.ref r0), (.double d1)] 3)) t := fun t k => castTop (efm6 m r0 d1) k
  obtain ⟨_, _, ⟨T101, L101, k101, n101⟩, -, X101, ⟨Lc101, hQ101, l101, y101, z101⟩, st101⟩ := X0.specialBack hx (y := (⟨"java/lang/Number", "<init>", "()V"⟩ : MethodName)) rfl hown (mvT hZ (own_w hw 39 rfl)) (mvT hZ (own_w hw 40 rfl)) (mvT hZ (own_w hw 44 rfl)) (by decide) (backOf (W := 0) (rmm7 l Z a0 hw [] r0 h0 n0 Z0 ) hZ (own_w hw 44 rfl) (own_w hw 43 rfl) (by decide) (by decide)) (g := (mkF m 1 #[.val (.ref r0), .val (.double d1), .second] [(.ref r0)])) rfl (by rw [hml]; rfl) (Steps.refl _) (a := r0) (argsL := []) (rest := []) (lenOf pd0 rfl) rfl (by show 2 * 0 + _ ≤ _; exact Nat.le_of_eq rfl) (hb hby d6_1) (fun _ _ => ⟨rfl, e0, (by decide : 0 + 0 ≤ _), (by decide : 0 + 0 ≤ _)⟩)
  dsimp only [Pt.U, Pt.locs, Pt.cells, Pt.slots] at X101 l101 y101 z101 st101 hQ101
  subst l101 y101 z101
  obtain ⟨rfl, Nq101, P101_0⟩ := hQ101
  have N101 := Fr.app N0 Nq101
  obtain ⟨T102, h102, X102, e102, W102, st102⟩ := putF X101 hx hZ hown (host := "") (Or.inl (own_w hw 46 rfl)) Via.refl P101_0 F_value_r0 E_r0 (Or.inr ⟨(own_w hw 47 rfl), rfl, hnm⟩) (own_w hw 34 rfl) (ty := .double) (by decide) rfl rfl (g := (mkF m 6 #[.val (.ref r0), .val (.double d1), .second] [(.double d1), (.ref r0)])) rfl rfl (hb hby d6_6)
  have Fw102 := F_value_r0.same W102
  have N102 := Fr.snoc X102 N101 g_r0
  have ZZ103 : n0 ≤ h102.size := Nat.le_trans Z0 (Nat.le_of_eq W102.size.symm)
  have KK104 : Keep h0 h102 [r0] := (Keep.refl h0 [r0]).wr W102 (Or.inl (List.mem_of_getElem? (i := 0) rfl))
  obtain ⟨fs, hr, hrun, hended, hW, hsame⟩ := X102.leave (v := none) (fun _ => rfl)
  refine ⟨_, _, pre0 _ ?_, hrun, hended, _, _, rfl, ?_, ⟨_, rfl⟩, hW, hsame.mono (by decide) (by decide)⟩
  · show own_S p e below s₁ m 0 #[oR r0, oD d1, oV] [] _
    refine XS.aloadN X0.here hx rfl (hb hby d6_0) rfl rfl ?_
    show own_S p e below s₁ m 1 #[oR r0, oD d1, oV] [(.ref r0)] _
    refine st101.trans ?_
    show own_S p e below T101 m 4 #[oR r0, oD d1, oV] [] _
    refine XS.aloadN X101.here hx rfl (hb hby d6_4) rfl rfl ?_
    show own_S p e below T101 m 5 #[oR r0, oD d1, oV] [(.ref r0)] _
    refine XS.dloadN X101.here hx rfl (hb hby d6_5) rfl ?_
    show own_S p e below T101 m 6 #[oR r0, oD d1, oV] [(.double d1), (.ref r0)] _
    refine st102 _ ?_
    show own_S p e below T102 m 9 #[oR r0, oD d1, oV] [] _
    exact X102.returnOut hx Bd.returns (hb hby d6_9) hr
  · show Qm6 Z r0 d1 u0 h0 n0 _ T102.heap _
    rw [e102]
    exact ⟨rfl, N102, KK104, (E_r0.wr W102), Fw102⟩
theorem pd1 : parseMethodDescriptor "(D)V" = some ⟨[.double], none⟩ := by decide +kernel
theorem d5_0 : decode jdk_117_method_4_code 0 = .ok (.new 1, 3) := by decide +kernel
theorem d5_3 : decode jdk_117_method_4_code 3 = .ok (.dup, 1) := by decide +kernel
theorem d5_4 : decode jdk_117_method_4_code 4 = .ok (.dload_n 0, 1) := by decide +kernel
theorem d5_5 : decode jdk_117_method_4_code 5 = .ok (.invokespecial 105, 3) := by decide +kernel
theorem d5_8 : decode jdk_117_method_4_code 8 = .ok (.areturn, 1) := by decide +kernel
theorem efm5 (m : MethodId) (d0 : UInt64) : entryFrame m #[(.double d0)] 2 = mkF m 0 #[.val (.double d0), .second] [] := by first | (simp [entryFrame, mkF, argsToLocals, Value.category]; done) | rfl
def Qm5 (Z : State) (d0 : UInt64) (h0 : Heap) (n0 : Nat) (v : Option Value) (h : Heap) (L : List Loc) : Prop := ∃ b : Addr, v = some (.ref b) ∧ Fr n0 L ∧ (Keep h0 h []) ∧ (h0.size ≤ b) ∧ (Exa Z h b "java/lang/Double") ∧ (Fld Z h b "java/lang/Double" "value" "D" (.double d0))
set_option maxRecDepth 65536 in
set_option maxHeartbeats 40000000 in
theorem rmm5 (l : Launch) (Z : State) (a0 : Array Value) (hw : ∀ d ∈ tables_1, d.before a0 Z = true) (ws : List Jvm.Cond) (d0 : UInt64) (h0 : Heap) (n0 : Nat) (Z0 : n0 ≤ h0.size)  :
    MetFree l (⟨"java/lang/Double", "valueOf", "(D)Ljava/lang/Double;"⟩ : MethodName) (head1 (Jvm.Cond.code (⟨"java/lang/Double", "valueOf", "(D)Ljava/lang/Double;"⟩ : MethodName) jdk_117_method_4_code 2 (some (.object "java/lang/Double")) :: ws) ({ frames := 3, cells := 1, slots := 1, locals := 39 } : Room)) (fun a U => a = #[(.double d0)] ∧ Z.Warmed39 U.vm ∧ U.heap = h0) (fun _ _ _ _ _ => True) (fun _ U o U' => ∃ v L, o = .returned v ∧ Qm5 Z d0 h0 n0 v U'.heap L ∧ FrameEnd U o U' L ({ frames := 3, cells := 1, slots := 1, locals := 39 } : Room).cells ({ frames := 3, cells := 1, slots := 1, locals := 39 } : Room).slots) := by
  refine MetFree.of_bodySF (plainFor_of_name pn2) hisR ?_
  intro p e s m args below meth c s₁ Bd hml0 hP hK
  obtain ⟨rfl, hZ, hh⟩ := hP
  have hx := Bd.exec
  have hby := Bd.bytes
  have hml : c.maxLocals = 2 := hml0
  have hown : s.vm.findClass "java/lang/Double" = some m.cls := findClass_of_methodNamed Bd.named
  have hnm := (name_of_methodNamed Bd.named Bd.method).1
  have X0 : Stand p l e ({ frames := 3, cells := 1, slots := 1, locals := 39 } : Room) s m #[(.double d0)] below meth c s₁ [] 0 0 := Stand.of_body Bd
  have e0 : s₁.heap = h0 := by rw [← hh, Bd.state]; rfl
  have N0 := Fr.nil n0
  have pre0 : ∀ t, Steps p.tables e below (s₁.setTop (mkF m 0 #[.val (.double d0), .second] [])) t → Steps p.tables e below (s₁.setTop (entryFrame m #[(.double d0)] 2)) t := fun t k => castTop (efm5 m d0) k
  obtain ⟨T101, h101, X101, e101, E101, A101, D101, -, st101⟩ := newO X0 hx hZ hown (own_w hw 33 rfl) (own_w hw 34 rfl) (own_w hw 31 rfl) e0 (g := (mkF m 0 #[.val (.double d0), .second] [])) rfl (hb hby d5_0) (by decide) (by decide)
  obtain ⟨b101, g101⟩ : ∃ z, z = h0.size := ⟨_, rfl⟩
  rw [← g101] at A101 D101 st101
  have g_b101 : n0 ≤ b101 := Nat.le_trans Z0 (Nat.le_of_eq g101.symm)
  have sz_b101 : h0.size ≤ b101 := Nat.le_trans (Keep.refl h0 []).1 (Nat.le_of_eq g101.symm)
  have ZZ102 : n0 ≤ h101.size := Nat.le_trans Z0 E101.1
  have KK103 : Keep h0 h101 [] := (Keep.refl h0 []).ext E101
  have F_value_b101 : Fld Z h101 b101 "java/lang/Double" "value" "D" (.double 0) := D101 (Or.inr (own_w hw 47 rfl)) (ty := .double) (by decide)
  obtain ⟨_, _, ⟨T104, L104, k104, n104⟩, -, X104, ⟨Lc104, hQ104, l104, y104, z104⟩, st104⟩ := X101.specialBack hx (y := (⟨"java/lang/Double", "<init>", "(D)V"⟩ : MethodName)) rfl hown (mvT hZ (own_w hw 35 rfl)) (mvT hZ (own_w hw 36 rfl)) (mvT hZ (own_w hw 38 rfl)) (by decide) (backOf (W := 1) (rmm6 l Z a0 hw [] b101 d0 (.double 0) h101 n0 ZZ102 F_value_b101 A101 g_b101) hZ (own_w hw 38 rfl) (own_w hw 31 rfl) (by decide) (by decide)) (g := (mkF m 5 #[.val (.double d0), .second] [(.double d0), (.ref b101), (.ref b101)])) rfl (by rw [hml]; rfl) (Steps.refl _) (a := b101) (argsL := [(.double d0)]) (rest := [(.ref b101)]) (lenOf pd1 rfl) rfl (by show 2 * 0 + _ ≤ _; exact Nat.le_of_eq rfl) (hb hby d5_5) (fun _ _ => ⟨rfl, e101, (by decide : 1 + 0 ≤ _), (by decide : 1 + 0 ≤ _)⟩)
  dsimp only [Pt.U, Pt.locs, Pt.cells, Pt.slots] at X104 l104 y104 z104 st104 hQ104
  subst l104 y104 z104
  obtain ⟨rfl, Nq104, P104_0, P104_1, P104_2⟩ := hQ104
  have N104 := Fr.app N0 Nq104
  have ZZ105 : n0 ≤ T104.heap.size := Nat.le_trans ZZ102 P104_0.1
  have KK106 : Keep h0 T104.heap [] := Keep.trans KK103 P104_0 (allS (Or.inr sz_b101) all0)
  obtain ⟨fs, hr, hrun, hended, hW, hsame⟩ := X104.leave (v := some (.ref b101)) (fun h => by rw [Bd.returns] at h; cases h)
  refine ⟨_, _, pre0 _ ?_, hrun, hended, _, _, rfl, ?_, ⟨_, rfl⟩, hW, hsame.mono (by decide) (by decide)⟩
  · show own_S p e below s₁ m 0 #[oD d0, oV] [] _
    refine st101 _ ?_
    show own_S p e below T101 m 3 #[oD d0, oV] [(.ref b101)] _
    refine XS.dup X101.here hx rfl (hb hby d5_3) rfl rfl ?_
    show own_S p e below T101 m 4 #[oD d0, oV] [(.ref b101), (.ref b101)] _
    refine XS.dloadN X101.here hx rfl (hb hby d5_4) rfl ?_
    show own_S p e below T101 m 5 #[oD d0, oV] [(.double d0), (.ref b101), (.ref b101)] _
    refine st104.trans ?_
    show own_S p e below T104 m 8 #[oD d0, oV] [(.ref b101)] _
    exact retOut X104 hx Bd.returns rfl (Or.inr (Or.inr (Or.inr (Or.inr ⟨rfl, rfl, rfl⟩)))) (hb hby d5_8) hr
  · show Qm5 Z d0 h0 n0 _ T104.heap _
    exact ⟨b101, rfl, N104, KK106, sz_b101, P104_1, P104_2⟩
theorem d8_0 : decode prog_44_method_4_code 0 = .ok (.iload_n 2, 1) := by decide +kernel
theorem d8_1 : decode prog_44_method_4_code 1 = .ok (.ifCond .ne 22, 3) := by decide +kernel
theorem d8_23 : decode prog_44_method_4_code 23 = .ok (.return_, 1) := by decide +kernel
theorem pn3 : plainName "com/example/buurt/buurt/model/Parameters" = true := by first | (simp [plainName, overriddenIn]; done) | decide +kernel
theorem efm8 (m : MethodId) (r0 : Addr) (r1 : Addr) (r3 : Addr) : entryFrame m #[(.ref r0), (.ref r1), (.int 1), (.ref r3)] 4 = mkF m 0 #[.val (.ref r0), .val (.ref r1), .val (.int 1), .val (.ref r3)] [] := by first | (simp [entryFrame, mkF, argsToLocals, Value.category]; done) | rfl
def Qm8 (Z : State) (r0 : Addr) (r1 : Addr) (r3 : Addr) (h0 : Heap) (n0 : Nat) (v : Option Value) (h : Heap) (L : List Loc) : Prop := v = none ∧ Fr n0 L ∧ (h = h0)
set_option maxRecDepth 65536 in
set_option maxHeartbeats 40000000 in
theorem rmm8 (l : Launch) (Z : State) (a0 : Array Value) (hw : ∀ d ∈ tables_1, d.before a0 Z = true) (ws : List Jvm.Cond) (r0 : Addr) (r1 : Addr) (r3 : Addr) (h0 : Heap) (n0 : Nat) (Z0 : n0 ≤ h0.size)  :
    MetFree l (⟨"com/example/buurt/buurt/model/Parameters", "require", "(Ljava/lang/String;Ljava/lang/Object;ZLjava/lang/String;)V"⟩ : MethodName) (head1 (Jvm.Cond.code (⟨"com/example/buurt/buurt/model/Parameters", "require", "(Ljava/lang/String;Ljava/lang/Object;ZLjava/lang/String;)V"⟩ : MethodName) prog_44_method_4_code 4 none :: ws) ({ frames := 0, cells := 0, slots := 0, locals := 0 } : Room)) (fun a U => a = #[(.ref r0), (.ref r1), (.int 1), (.ref r3)] ∧ Z.Warmed39 U.vm ∧ U.heap = h0) (fun _ _ _ _ _ => True) (fun _ U o U' => ∃ v L, o = .returned v ∧ Qm8 Z r0 r1 r3 h0 n0 v U'.heap L ∧ FrameEnd U o U' L ({ frames := 0, cells := 0, slots := 0, locals := 0 } : Room).cells ({ frames := 0, cells := 0, slots := 0, locals := 0 } : Room).slots) := by
  refine MetFree.of_bodySF (plainFor_of_name pn3) hisR ?_
  intro p e s m args below meth c s₁ Bd hml0 hP hK
  obtain ⟨rfl, hZ, hh⟩ := hP
  have hx := Bd.exec
  have hby := Bd.bytes
  have hml : c.maxLocals = 4 := hml0
  have hown : s.vm.findClass "com/example/buurt/buurt/model/Parameters" = some m.cls := findClass_of_methodNamed Bd.named
  have hnm := (name_of_methodNamed Bd.named Bd.method).1
  have X0 : Stand p l e ({ frames := 0, cells := 0, slots := 0, locals := 0 } : Room) s m #[(.ref r0), (.ref r1), (.int 1), (.ref r3)] below meth c s₁ [] 0 0 := Stand.of_body Bd
  have e0 : s₁.heap = h0 := by rw [← hh, Bd.state]; rfl
  have N0 := Fr.nil n0
  have pre0 : ∀ t, Steps p.tables e below (s₁.setTop (mkF m 0 #[.val (.ref r0), .val (.ref r1), .val (.int 1), .val (.ref r3)] [])) t → Steps p.tables e below (s₁.setTop (entryFrame m #[(.ref r0), (.ref r1), (.int 1), (.ref r3)] 4)) t := fun t k => castTop (efm8 m r0 r1 r3) k
  obtain ⟨fs, hr, hrun, hended, hW, hsame⟩ := X0.leave (v := none) (fun _ => rfl)
  refine ⟨_, _, pre0 _ ?_, hrun, hended, _, _, rfl, ?_, ⟨_, rfl⟩, hW, hsame.mono (by decide) (by decide)⟩
  · show own_S p e below s₁ m 0 #[oR r0, oR r1, oI 1, oR r3] [] _
    refine XS.iloadN X0.here hx rfl (hb hby d8_0) rfl ?_
    show own_S p e below s₁ m 1 #[oR r0, oR r1, oI 1, oR r3] [(.int 1)] _
    refine XS.ifYes X0.here hx rfl (pc0 := 1) (pc' := 23) rfl (hb hby d8_1) rfl ((if0 _ _).trans (feq (by decide : ¬ ((1 : Int32) = (0 : Int32)))).2) (by decide) (by decide) ?_
    show own_S p e below s₁ m 23 #[oR r0, oR r1, oI 1, oR r3] [] _
    exact X0.returnOut hx Bd.returns (hb hby d8_23) hr
  · show Qm8 Z r0 r1 r3 h0 n0 _ s₁.heap _
    rw [e0]
    exact ⟨rfl, N0, rfl⟩
theorem pd2 : parseMethodDescriptor "(D)Ljava/lang/Double;" = some ⟨[.double], some (.object "java/lang/Double")⟩ := by decide +kernel
theorem own_str {Z : State} {a0 : Array Value} (hw : ∀ d ∈ tables_1, d.before a0 Z = true) : ∀ a ∈ Bundle.stringAtoms, a.before a0 Z = true := by
  intro a ha
  simp only [Bundle.stringAtoms, List.mem_cons, List.not_mem_nil, or_false] at ha
  rcases ha with rfl | rfl | rfl | rfl | rfl | rfl | rfl
  · exact (own_w hw 19 rfl)
  · exact (own_w hw 20 rfl)
  · exact (own_w hw 21 rfl)
  · exact (own_w hw 22 rfl)
  · exact (own_w hw 23 rfl)
  · exact (own_w hw 24 rfl)
  · exact (own_w hw 25 rfl)
theorem pd3 : parseMethodDescriptor "(Ljava/lang/String;Ljava/lang/Object;ZLjava/lang/String;)V" = some ⟨[(.object "java/lang/String"), (.object "java/lang/Object"), .boolean, (.object "java/lang/String")], none⟩ := by decide +kernel
theorem d4_0 : decode prog_23_method_4_code 0 = .ok (.aload_n 0, 1) := by decide +kernel
theorem d4_1 : decode prog_23_method_4_code 1 = .ok (.dload_n 1, 1) := by decide +kernel
theorem d4_2 : decode prog_23_method_4_code 2 = .ok (.invokestatic 39, 3) := by decide +kernel
theorem d4_5 : decode prog_23_method_4_code 5 = .ok (.dload_n 1, 1) := by decide +kernel
theorem d4_6 : decode prog_23_method_4_code 6 = .ok (.dconst 0, 1) := by decide +kernel
theorem d4_7 : decode prog_23_method_4_code 7 = .ok (.dcmp .l, 1) := by decide +kernel
theorem d4_8 : decode prog_23_method_4_code 8 = .ok (.ifCond .lt 15, 3) := by decide +kernel
theorem d4_11 : decode prog_23_method_4_code 11 = .ok (.dload_n 1, 1) := by decide +kernel
theorem d4_12 : decode prog_23_method_4_code 12 = .ok (.ldc2_w 45, 3) := by decide +kernel
theorem d4_15 : decode prog_23_method_4_code 15 = .ok (.dcmp .g, 1) := by decide +kernel
theorem d4_16 : decode prog_23_method_4_code 16 = .ok (.ifCond .gt 7, 3) := by decide +kernel
theorem d4_19 : decode prog_23_method_4_code 19 = .ok (.iconst 1, 1) := by decide +kernel
theorem d4_20 : decode prog_23_method_4_code 20 = .ok (.goto 4, 3) := by decide +kernel
theorem d4_24 : decode prog_23_method_4_code 24 = .ok (.ldc 47, 2) := by decide +kernel
theorem d4_26 : decode prog_23_method_4_code 26 = .ok (.invokestatic 49, 3) := by decide +kernel
theorem d4_29 : decode prog_23_method_4_code 29 = .ok (.return_, 1) := by decide +kernel
theorem pn4 : plainName "com/example/buurt/buurt/model/Bm25" = true := by first | (simp [plainName, overriddenIn]; done) | decide +kernel
theorem efm4 (m : MethodId) (r0 : Addr) (d1 : UInt64) : entryFrame m #[(.ref r0), (.double d1)] 3 = mkF m 0 #[.val (.ref r0), .val (.double d1), .second] [] := by first | (simp [entryFrame, mkF, argsToLocals, Value.category]; done) | rfl
def Qm4 (Z : State) (r0 : Addr) (d1 : UInt64) (h0 : Heap) (n0 : Nat) (v : Option Value) (h : Heap) (L : List Loc) : Prop := v = none ∧ Fr n0 L ∧ (Keep h0 h [])
set_option maxRecDepth 65536 in
set_option maxHeartbeats 40000000 in
theorem rmm4 (l : Launch) (Z : State) (a0 : Array Value) (hw : ∀ d ∈ tables_1, d.before a0 Z = true) (ws : List Jvm.Cond) (r0 : Addr) (d1 : UInt64) (h0 : Heap) (n0 : Nat) (Z0 : n0 ≤ h0.size) (hc7 : ¬ ((cmpValue (FP.dcmp d1 (0 : UInt64)) .l) < (0 : Int32))) (hc15 : ¬ ((0 : Int32) < (cmpValue (FP.dcmp d1 (9218868437227405311 : UInt64)) .g))) :
    MetFree l (⟨"com/example/buurt/buurt/model/Bm25", "requireSaturation", "(Ljava/lang/String;D)V"⟩ : MethodName) (head1 (Jvm.Cond.code (⟨"com/example/buurt/buurt/model/Bm25", "requireSaturation", "(Ljava/lang/String;D)V"⟩ : MethodName) prog_23_method_4_code 3 none :: ws) ({ frames := 4, cells := 3, slots := 89, locals := 53 } : Room)) (fun a U => a = #[(.ref r0), (.double d1)] ∧ Z.Warmed39 U.vm ∧ U.heap = h0) (fun _ _ _ _ _ => True) (fun _ U o U' => ∃ v L, o = .returned v ∧ Qm4 Z r0 d1 h0 n0 v U'.heap L ∧ ReturnedEndW U o U' L ({ frames := 4, cells := 3, slots := 89, locals := 53 } : Room).cells ({ frames := 4, cells := 3, slots := 89, locals := 53 } : Room).slots) := by
  refine MetFree.of_bodySF (plainFor_of_name pn4) hisR ?_
  intro p e s m args below meth c s₁ Bd hml0 hP hK
  obtain ⟨rfl, hZ, hh⟩ := hP
  have hx := Bd.exec
  have hby := Bd.bytes
  have hml : c.maxLocals = 3 := hml0
  have hown : s.vm.findClass "com/example/buurt/buurt/model/Bm25" = some m.cls := findClass_of_methodNamed Bd.named
  have hnm := (name_of_methodNamed Bd.named Bd.method).1
  have X0 : Stand p l e ({ frames := 4, cells := 3, slots := 89, locals := 53 } : Room) (s.setVm s.vm) m #[(.ref r0), (.double d1)] below meth c s₁ [] 0 0 := Stand.of_body Bd
  have e0 : s₁.heap = h0 := by rw [← hh, Bd.state]; rfl
  have N0 := Fr.nil n0
  have pre0 : ∀ t, Steps p.tables e below (s₁.setTop (mkF m 0 #[.val (.ref r0), .val (.double d1), .second] [])) t → Steps p.tables e below (s₁.setTop (entryFrame m #[(.ref r0), (.double d1)] 3)) t := fun t k => castTop (efm4 m r0 d1) k
  have hS0 := (State.WarmedH.refl s).since 0
  replace hZ : Z.Warmed39 (s.setVm s.vm).vm := hZ
  replace hown : (s.setVm s.vm).vm.findClass "com/example/buurt/buurt/model/Bm25" = some m.cls := hown
  obtain ⟨_, _, ⟨T101, L101, k101, n101⟩, -, X101, ⟨Lc101, hQ101, l101, y101, z101⟩, st101⟩ := Jvm.LawKit.callS X0 hx (y := (⟨"java/lang/Double", "valueOf", "(D)Ljava/lang/Double;"⟩ : MethodName)) hown (mvT hZ (own_w hw 29 rfl)) (mvT hZ (own_w hw 30 rfl)) (mvT hZ (own_w hw 31 rfl)) (mvT hZ (own_w hw 32 rfl)) (by decide) (backOf (W := 1) (rmm5 l Z a0 hw [] d1 h0 n0 Z0 ) hZ (own_w hw 32 rfl) (own_w hw 31 rfl) (by decide) (by decide)) (g := (mkF m 2 #[.val (.ref r0), .val (.double d1), .second] [(.double d1), (.ref r0)])) rfl (by rw [hml]; rfl) (argsL := [(.double d1)]) (rest := [(.ref r0)]) (lenOf pd2 rfl) rfl (by show 2 * 0 + _ ≤ _; exact Nat.le_of_eq rfl) (hb hby d4_2) (fun _ _ => ⟨rfl, e0, (by decide : 0 + 1 ≤ _), (by decide : 0 + 1 ≤ _)⟩)
  dsimp only [Pt.U, Pt.locs, Pt.cells, Pt.slots] at X101 l101 y101 z101 st101 hQ101
  subst l101 y101 z101
  obtain ⟨b_101, rfl, Nq101, P101_0, P101_1, P101_2, P101_3⟩ := hQ101
  have N101 := Fr.app N0 Nq101
  have g_b_101 : n0 ≤ b_101 := Nat.le_trans Z0 P101_1
  have sz_b_101 : h0.size ≤ b_101 := Nat.le_trans (Keep.refl h0 []).1 P101_1
  have ZZ103 : n0 ≤ T101.heap.size := Nat.le_trans Z0 P101_0.1
  have KK104 : Keep h0 T101.heap [] := Keep.trans (Keep.refl h0 []) P101_0 all0
  obtain ⟨b105, T105, h105, k105, X105, e105, E105, hS105, hk105, hZ105, how105, st105⟩ := ldcS (s := s) (vm0 := s.vm) X101 hx hZ hown (own_w hw 49 rfl) (own_str hw) rfl hS0 (Nat.zero_le _) (g := (mkF m 24 #[.val (.ref r0), .val (.double d1), .second] [(.int 1), (.ref b_101), (.ref r0)])) rfl (hb hby d4_24) (n := 84) (by decide) (by decide) (by decide) (by decide)
  have ZZ106 : n0 ≤ h105.size := Nat.le_trans ZZ103 E105.1
  have KK107 : Keep h0 h105 [] := KK104.ext E105
  obtain ⟨_, _, ⟨T108, L108, k108, n108⟩, -, X108, ⟨Lc108, hQ108, l108, y108, z108⟩, st108⟩ := Jvm.LawKit.callS X105 hx (y := (⟨"com/example/buurt/buurt/model/Parameters", "require", "(Ljava/lang/String;Ljava/lang/Object;ZLjava/lang/String;)V"⟩ : MethodName)) how105 (mvT hZ105 (own_w hw 50 rfl)) (mvT hZ105 (own_w hw 51 rfl)) (mvT hZ105 (own_w hw 52 rfl)) (mvT hZ105 (own_w hw 53 rfl)) (by decide) (backOf (W := 0) (rmm8 l Z a0 hw [] r0 b_101 b105 h105 n0 ZZ106 ) hZ105 (own_w hw 53 rfl) (own_w hw 52 rfl) (by decide) (by decide)) (g := (mkF m 26 #[.val (.ref r0), .val (.double d1), .second] [(.ref b105), (.int 1), (.ref b_101), (.ref r0)])) rfl (by rw [hml]; rfl) (argsL := [(.ref r0), (.ref b_101), (.int 1), (.ref b105)]) (rest := []) (lenOf pd3 rfl) rfl (by show 2 * 0 + _ ≤ _; exact Nat.le_of_eq rfl) (hb hby d4_26) (fun _ _ => ⟨rfl, e105, (by decide : 3 + 0 ≤ _), (by decide : 89 + 0 ≤ _)⟩)
  dsimp only [Pt.U, Pt.locs, Pt.cells, Pt.slots] at X108 l108 y108 z108 st108 hQ108
  subst l108 y108 z108
  obtain ⟨rfl, Nq108, P108_0⟩ := hQ108
  have N108 := Fr.app N101 Nq108
  obtain ⟨fs, hr, hrun, hended, hREW⟩ := X108.leaveW hS105 (by rw [P108_0]; exact hk105) (v := none) (fun _ => rfl)
  refine ⟨_, _, pre0 _ ?_, hrun, hended, _, _, rfl, ?_, hREW.1, hREW.2.1, hREW.2.2.1, hREW.2.2.2.mono (by decide) (by decide)⟩
  · show own_S p e below s₁ m 0 #[oR r0, oD d1, oV] [] _
    refine XS.aloadN X0.here hx rfl (hb hby d4_0) rfl rfl ?_
    show own_S p e below s₁ m 1 #[oR r0, oD d1, oV] [(.ref r0)] _
    refine XS.dloadN X0.here hx rfl (hb hby d4_1) rfl ?_
    show own_S p e below s₁ m 2 #[oR r0, oD d1, oV] [(.double d1), (.ref r0)] _
    refine st101 _ ?_
    show own_S p e below T101 m 5 #[oR r0, oD d1, oV] [(.ref b_101), (.ref r0)] _
    refine XS.dloadN X101.here hx rfl (hb hby d4_5) rfl ?_
    show own_S p e below T101 m 6 #[oR r0, oD d1, oV] [(.double d1), (.ref b_101), (.ref r0)] _
    refine XS.dconst0 X101.here hx rfl (v := 0) (hb hby d4_6) rfl ?_
    show own_S p e below T101 m 7 #[oR r0, oD d1, oV] [(.double 0), (.double d1), (.ref b_101), (.ref r0)] _
    refine XS.dcmpS X101.here hx rfl (v := (cmpValue (FP.dcmp d1 (0 : UInt64)) .l)) (hb hby d4_7) rfl rfl ?_
    show own_S p e below T101 m 8 #[oR r0, oD d1, oV] [(.int (cmpValue (FP.dcmp d1 (0 : UInt64)) .l)), (.ref b_101), (.ref r0)] _
    refine XS.ifNo X101.here hx rfl (hb hby d4_8) rfl ((if0 _ _).trans (flt (hc7 : ¬ ((cmpValue (FP.dcmp d1 (0 : UInt64)) .l) < (0 : Int32)))).1) ?_
    show own_S p e below T101 m 11 #[oR r0, oD d1, oV] [(.ref b_101), (.ref r0)] _
    refine XS.dloadN X101.here hx rfl (hb hby d4_11) rfl ?_
    show own_S p e below T101 m 12 #[oR r0, oD d1, oV] [(.double d1), (.ref b_101), (.ref r0)] _
    refine X101.ldc2DoubleC hx hown (mvT hZ (own_w hw 48 rfl)) (g := (mkF m 12 #[.val (.ref r0), .val (.double d1), .second] [(.double d1), (.ref b_101), (.ref r0)])) rfl (hb hby d4_12) _ ?_
    show own_S p e below T101 m 15 #[oR r0, oD d1, oV] [(.double 9218868437227405311), (.double d1), (.ref b_101), (.ref r0)] _
    refine XS.dcmpS X101.here hx rfl (v := (cmpValue (FP.dcmp d1 (9218868437227405311 : UInt64)) .g)) (hb hby d4_15) rfl rfl ?_
    show own_S p e below T101 m 16 #[oR r0, oD d1, oV] [(.int (cmpValue (FP.dcmp d1 (9218868437227405311 : UInt64)) .g)), (.ref b_101), (.ref r0)] _
    refine XS.ifNo X101.here hx rfl (hb hby d4_16) rfl ((if0 _ _).trans (flt (hc15 : ¬ ((0 : Int32) < (cmpValue (FP.dcmp d1 (9218868437227405311 : UInt64)) .g)))).2.2.1) ?_
    show own_S p e below T101 m 19 #[oR r0, oD d1, oV] [(.ref b_101), (.ref r0)] _
    refine XS.iconst X101.here hx rfl (hb hby d4_19) ?_
    show own_S p e below T101 m 20 #[oR r0, oD d1, oV] [(.int 1), (.ref b_101), (.ref r0)] _
    refine XS.goto X101.here hx rfl (pc0 := 20) (pc' := 24) rfl (hb hby d4_20) (by decide) (by decide) ?_
    show own_S p e below T101 m 24 #[oR r0, oD d1, oV] [(.int 1), (.ref b_101), (.ref r0)] _
    refine st105 _ ?_
    show own_S p e below T105 m 26 #[oR r0, oD d1, oV] [(.ref b105), (.int 1), (.ref b_101), (.ref r0)] _
    refine st108 _ ?_
    show own_S p e below T108 m 29 #[oR r0, oD d1, oV] [] _
    exact X108.returnOut hx Bd.returns (hb hby d4_29) hr
  · show Qm4 Z r0 d1 h0 n0 _ T108.heap _
    rw [P108_0]
    exact ⟨rfl, N108, KK107⟩
theorem d9_0 : decode prog_44_method_2_code 0 = .ok (.aload_n 0, 1) := by decide +kernel
theorem d9_1 : decode prog_44_method_2_code 1 = .ok (.dload_n 1, 1) := by decide +kernel
theorem d9_2 : decode prog_44_method_2_code 2 = .ok (.invokestatic 7, 3) := by decide +kernel
theorem d9_5 : decode prog_44_method_2_code 5 = .ok (.dload_n 1, 1) := by decide +kernel
theorem d9_6 : decode prog_44_method_2_code 6 = .ok (.dconst 0, 1) := by decide +kernel
theorem d9_7 : decode prog_44_method_2_code 7 = .ok (.dcmp .l, 1) := by decide +kernel
theorem d9_8 : decode prog_44_method_2_code 8 = .ok (.ifCond .lt 13, 3) := by decide +kernel
theorem d9_11 : decode prog_44_method_2_code 11 = .ok (.dload_n 1, 1) := by decide +kernel
theorem d9_12 : decode prog_44_method_2_code 12 = .ok (.dconst 1, 1) := by decide +kernel
theorem d9_13 : decode prog_44_method_2_code 13 = .ok (.dcmp .g, 1) := by decide +kernel
theorem d9_14 : decode prog_44_method_2_code 14 = .ok (.ifCond .gt 7, 3) := by decide +kernel
theorem d9_17 : decode prog_44_method_2_code 17 = .ok (.iconst 1, 1) := by decide +kernel
theorem d9_18 : decode prog_44_method_2_code 18 = .ok (.goto 4, 3) := by decide +kernel
theorem d9_22 : decode prog_44_method_2_code 22 = .ok (.ldc 13, 2) := by decide +kernel
theorem d9_24 : decode prog_44_method_2_code 24 = .ok (.invokestatic 15, 3) := by decide +kernel
theorem d9_27 : decode prog_44_method_2_code 27 = .ok (.return_, 1) := by decide +kernel
theorem efm9 (m : MethodId) (r0 : Addr) (d1 : UInt64) : entryFrame m #[(.ref r0), (.double d1)] 3 = mkF m 0 #[.val (.ref r0), .val (.double d1), .second] [] := by first | (simp [entryFrame, mkF, argsToLocals, Value.category]; done) | rfl
def Qm9 (Z : State) (r0 : Addr) (d1 : UInt64) (h0 : Heap) (n0 : Nat) (v : Option Value) (h : Heap) (L : List Loc) : Prop := v = none ∧ Fr n0 L ∧ (Keep h0 h [])
set_option maxRecDepth 65536 in
set_option maxHeartbeats 40000000 in
theorem rmm9 (l : Launch) (Z : State) (a0 : Array Value) (hw : ∀ d ∈ tables_1, d.before a0 Z = true) (ws : List Jvm.Cond) (r0 : Addr) (d1 : UInt64) (h0 : Heap) (n0 : Nat) (Z0 : n0 ≤ h0.size) (hc7 : ¬ ((cmpValue (FP.dcmp d1 (0 : UInt64)) .l) < (0 : Int32))) (hc13 : ¬ ((0 : Int32) < (cmpValue (FP.dcmp d1 (4607182418800017408 : UInt64)) .g))) :
    MetFree l (⟨"com/example/buurt/buurt/model/Parameters", "requireFraction", "(Ljava/lang/String;D)V"⟩ : MethodName) (head1 (Jvm.Cond.code (⟨"com/example/buurt/buurt/model/Parameters", "requireFraction", "(Ljava/lang/String;D)V"⟩ : MethodName) prog_44_method_2_code 3 none :: ws) ({ frames := 4, cells := 3, slots := 49, locals := 53 } : Room)) (fun a U => a = #[(.ref r0), (.double d1)] ∧ Z.Warmed39 U.vm ∧ U.heap = h0) (fun _ _ _ _ _ => True) (fun _ U o U' => ∃ v L, o = .returned v ∧ Qm9 Z r0 d1 h0 n0 v U'.heap L ∧ ReturnedEndW U o U' L ({ frames := 4, cells := 3, slots := 49, locals := 53 } : Room).cells ({ frames := 4, cells := 3, slots := 49, locals := 53 } : Room).slots) := by
  refine MetFree.of_bodySF (plainFor_of_name pn3) hisR ?_
  intro p e s m args below meth c s₁ Bd hml0 hP hK
  obtain ⟨rfl, hZ, hh⟩ := hP
  have hx := Bd.exec
  have hby := Bd.bytes
  have hml : c.maxLocals = 3 := hml0
  have hown : s.vm.findClass "com/example/buurt/buurt/model/Parameters" = some m.cls := findClass_of_methodNamed Bd.named
  have hnm := (name_of_methodNamed Bd.named Bd.method).1
  have X0 : Stand p l e ({ frames := 4, cells := 3, slots := 49, locals := 53 } : Room) (s.setVm s.vm) m #[(.ref r0), (.double d1)] below meth c s₁ [] 0 0 := Stand.of_body Bd
  have e0 : s₁.heap = h0 := by rw [← hh, Bd.state]; rfl
  have N0 := Fr.nil n0
  have pre0 : ∀ t, Steps p.tables e below (s₁.setTop (mkF m 0 #[.val (.ref r0), .val (.double d1), .second] [])) t → Steps p.tables e below (s₁.setTop (entryFrame m #[(.ref r0), (.double d1)] 3)) t := fun t k => castTop (efm9 m r0 d1) k
  have hS0 := (State.WarmedH.refl s).since 0
  replace hZ : Z.Warmed39 (s.setVm s.vm).vm := hZ
  replace hown : (s.setVm s.vm).vm.findClass "com/example/buurt/buurt/model/Parameters" = some m.cls := hown
  obtain ⟨_, _, ⟨T101, L101, k101, n101⟩, -, X101, ⟨Lc101, hQ101, l101, y101, z101⟩, st101⟩ := Jvm.LawKit.callS X0 hx (y := (⟨"java/lang/Double", "valueOf", "(D)Ljava/lang/Double;"⟩ : MethodName)) hown (mvT hZ (own_w hw 58 rfl)) (mvT hZ (own_w hw 30 rfl)) (mvT hZ (own_w hw 31 rfl)) (mvT hZ (own_w hw 32 rfl)) (by decide) (backOf (W := 1) (rmm5 l Z a0 hw [] d1 h0 n0 Z0 ) hZ (own_w hw 32 rfl) (own_w hw 31 rfl) (by decide) (by decide)) (g := (mkF m 2 #[.val (.ref r0), .val (.double d1), .second] [(.double d1), (.ref r0)])) rfl (by rw [hml]; rfl) (argsL := [(.double d1)]) (rest := [(.ref r0)]) (lenOf pd2 rfl) rfl (by show 2 * 0 + _ ≤ _; exact Nat.le_of_eq rfl) (hb hby d9_2) (fun _ _ => ⟨rfl, e0, (by decide : 0 + 1 ≤ _), (by decide : 0 + 1 ≤ _)⟩)
  dsimp only [Pt.U, Pt.locs, Pt.cells, Pt.slots] at X101 l101 y101 z101 st101 hQ101
  subst l101 y101 z101
  obtain ⟨b_101, rfl, Nq101, P101_0, P101_1, P101_2, P101_3⟩ := hQ101
  have N101 := Fr.app N0 Nq101
  have g_b_101 : n0 ≤ b_101 := Nat.le_trans Z0 P101_1
  have sz_b_101 : h0.size ≤ b_101 := Nat.le_trans (Keep.refl h0 []).1 P101_1
  have ZZ103 : n0 ≤ T101.heap.size := Nat.le_trans Z0 P101_0.1
  have KK104 : Keep h0 T101.heap [] := Keep.trans (Keep.refl h0 []) P101_0 all0
  obtain ⟨b105, T105, h105, k105, X105, e105, E105, hS105, hk105, hZ105, how105, st105⟩ := ldcS (s := s) (vm0 := s.vm) X101 hx hZ hown (own_w hw 59 rfl) (own_str hw) rfl hS0 (Nat.zero_le _) (g := (mkF m 22 #[.val (.ref r0), .val (.double d1), .second] [(.int 1), (.ref b_101), (.ref r0)])) rfl (hb hby d9_22) (n := 44) (by decide) (by decide) (by decide) (by decide)
  have ZZ106 : n0 ≤ h105.size := Nat.le_trans ZZ103 E105.1
  have KK107 : Keep h0 h105 [] := KK104.ext E105
  obtain ⟨_, _, ⟨T108, L108, k108, n108⟩, -, X108, ⟨Lc108, hQ108, l108, y108, z108⟩, st108⟩ := Jvm.LawKit.callS X105 hx (y := (⟨"com/example/buurt/buurt/model/Parameters", "require", "(Ljava/lang/String;Ljava/lang/Object;ZLjava/lang/String;)V"⟩ : MethodName)) how105 (mvT hZ105 (own_w hw 60 rfl)) (mvT hZ105 (own_w hw 51 rfl)) (mvT hZ105 (own_w hw 52 rfl)) (mvT hZ105 (own_w hw 53 rfl)) (by decide) (backOf (W := 0) (rmm8 l Z a0 hw [] r0 b_101 b105 h105 n0 ZZ106 ) hZ105 (own_w hw 53 rfl) (own_w hw 52 rfl) (by decide) (by decide)) (g := (mkF m 24 #[.val (.ref r0), .val (.double d1), .second] [(.ref b105), (.int 1), (.ref b_101), (.ref r0)])) rfl (by rw [hml]; rfl) (argsL := [(.ref r0), (.ref b_101), (.int 1), (.ref b105)]) (rest := []) (lenOf pd3 rfl) rfl (by show 2 * 0 + _ ≤ _; exact Nat.le_of_eq rfl) (hb hby d9_24) (fun _ _ => ⟨rfl, e105, (by decide : 3 + 0 ≤ _), (by decide : 49 + 0 ≤ _)⟩)
  dsimp only [Pt.U, Pt.locs, Pt.cells, Pt.slots] at X108 l108 y108 z108 st108 hQ108
  subst l108 y108 z108
  obtain ⟨rfl, Nq108, P108_0⟩ := hQ108
  have N108 := Fr.app N101 Nq108
  obtain ⟨fs, hr, hrun, hended, hREW⟩ := X108.leaveW hS105 (by rw [P108_0]; exact hk105) (v := none) (fun _ => rfl)
  refine ⟨_, _, pre0 _ ?_, hrun, hended, _, _, rfl, ?_, hREW.1, hREW.2.1, hREW.2.2.1, hREW.2.2.2.mono (by decide) (by decide)⟩
  · show own_S p e below s₁ m 0 #[oR r0, oD d1, oV] [] _
    refine XS.aloadN X0.here hx rfl (hb hby d9_0) rfl rfl ?_
    show own_S p e below s₁ m 1 #[oR r0, oD d1, oV] [(.ref r0)] _
    refine XS.dloadN X0.here hx rfl (hb hby d9_1) rfl ?_
    show own_S p e below s₁ m 2 #[oR r0, oD d1, oV] [(.double d1), (.ref r0)] _
    refine st101 _ ?_
    show own_S p e below T101 m 5 #[oR r0, oD d1, oV] [(.ref b_101), (.ref r0)] _
    refine XS.dloadN X101.here hx rfl (hb hby d9_5) rfl ?_
    show own_S p e below T101 m 6 #[oR r0, oD d1, oV] [(.double d1), (.ref b_101), (.ref r0)] _
    refine XS.dconst0 X101.here hx rfl (v := 0) (hb hby d9_6) rfl ?_
    show own_S p e below T101 m 7 #[oR r0, oD d1, oV] [(.double 0), (.double d1), (.ref b_101), (.ref r0)] _
    refine XS.dcmpS X101.here hx rfl (v := (cmpValue (FP.dcmp d1 (0 : UInt64)) .l)) (hb hby d9_7) rfl rfl ?_
    show own_S p e below T101 m 8 #[oR r0, oD d1, oV] [(.int (cmpValue (FP.dcmp d1 (0 : UInt64)) .l)), (.ref b_101), (.ref r0)] _
    refine XS.ifNo X101.here hx rfl (hb hby d9_8) rfl ((if0 _ _).trans (flt (hc7 : ¬ ((cmpValue (FP.dcmp d1 (0 : UInt64)) .l) < (0 : Int32)))).1) ?_
    show own_S p e below T101 m 11 #[oR r0, oD d1, oV] [(.ref b_101), (.ref r0)] _
    refine XS.dloadN X101.here hx rfl (hb hby d9_11) rfl ?_
    show own_S p e below T101 m 12 #[oR r0, oD d1, oV] [(.double d1), (.ref b_101), (.ref r0)] _
    refine XS.dconst1 X101.here hx rfl (v := 4607182418800017408) (hb hby d9_12) rfl ?_
    show own_S p e below T101 m 13 #[oR r0, oD d1, oV] [(.double 4607182418800017408), (.double d1), (.ref b_101), (.ref r0)] _
    refine XS.dcmpS X101.here hx rfl (v := (cmpValue (FP.dcmp d1 (4607182418800017408 : UInt64)) .g)) (hb hby d9_13) rfl rfl ?_
    show own_S p e below T101 m 14 #[oR r0, oD d1, oV] [(.int (cmpValue (FP.dcmp d1 (4607182418800017408 : UInt64)) .g)), (.ref b_101), (.ref r0)] _
    refine XS.ifNo X101.here hx rfl (hb hby d9_14) rfl ((if0 _ _).trans (flt (hc13 : ¬ ((0 : Int32) < (cmpValue (FP.dcmp d1 (4607182418800017408 : UInt64)) .g)))).2.2.1) ?_
    show own_S p e below T101 m 17 #[oR r0, oD d1, oV] [(.ref b_101), (.ref r0)] _
    refine XS.iconst X101.here hx rfl (hb hby d9_17) ?_
    show own_S p e below T101 m 18 #[oR r0, oD d1, oV] [(.int 1), (.ref b_101), (.ref r0)] _
    refine XS.goto X101.here hx rfl (pc0 := 18) (pc' := 22) rfl (hb hby d9_18) (by decide) (by decide) ?_
    show own_S p e below T101 m 22 #[oR r0, oD d1, oV] [(.int 1), (.ref b_101), (.ref r0)] _
    refine st105 _ ?_
    show own_S p e below T105 m 24 #[oR r0, oD d1, oV] [(.ref b105), (.int 1), (.ref b_101), (.ref r0)] _
    refine st108 _ ?_
    show own_S p e below T108 m 27 #[oR r0, oD d1, oV] [] _
    exact X108.returnOut hx Bd.returns (hb hby d9_27) hr
  · show Qm9 Z r0 d1 h0 n0 _ T108.heap _
    rw [P108_0]
    exact ⟨rfl, N108, KK107⟩
theorem pd4 : parseMethodDescriptor "(Ljava/lang/String;D)V" = some ⟨[(.object "java/lang/String"), .double], none⟩ := by decide +kernel
theorem sn0 {Z : State} {a0 : Array Value} (hw : ∀ d ∈ tables_1, d.before a0 Z = true) : Jvm.RoadKit.slotOf Z "com/example/buurt/buurt/model/Bm25" "b" "D" ≠ Jvm.RoadKit.slotOf Z "com/example/buurt/buurt/model/Bm25" "k1" "D" := slot_ne (Or.inr (own_w hw 65 rfl)) (Or.inr (own_w hw 63 rfl)) (by decide) (t := .double) (t' := .double) (by decide) (by decide)
theorem sn1 {Z : State} {a0 : Array Value} (hw : ∀ d ∈ tables_1, d.before a0 Z = true) : Jvm.RoadKit.slotOf Z "com/example/buurt/buurt/model/Bm25" "k3" "D" ≠ Jvm.RoadKit.slotOf Z "com/example/buurt/buurt/model/Bm25" "k1" "D" := slot_ne (Or.inr (own_w hw 67 rfl)) (Or.inr (own_w hw 63 rfl)) (by decide) (t := .double) (t' := .double) (by decide) (by decide)
theorem sn2 {Z : State} {a0 : Array Value} (hw : ∀ d ∈ tables_1, d.before a0 Z = true) : Jvm.RoadKit.slotOf Z "com/example/buurt/buurt/model/Bm25" "k3" "D" ≠ Jvm.RoadKit.slotOf Z "com/example/buurt/buurt/model/Bm25" "b" "D" := slot_ne (Or.inr (own_w hw 67 rfl)) (Or.inr (own_w hw 65 rfl)) (by decide) (t := .double) (t' := .double) (by decide) (by decide)
theorem sn3 {Z : State} {a0 : Array Value} (hw : ∀ d ∈ tables_1, d.before a0 Z = true) : Jvm.RoadKit.slotOf Z "com/example/buurt/buurt/model/Bm25" "k1" "D" ≠ Jvm.RoadKit.slotOf Z "com/example/buurt/buurt/model/Bm25" "b" "D" := slot_ne (Or.inr (own_w hw 63 rfl)) (Or.inr (own_w hw 65 rfl)) (by decide) (t := .double) (t' := .double) (by decide) (by decide)
theorem sn4 {Z : State} {a0 : Array Value} (hw : ∀ d ∈ tables_1, d.before a0 Z = true) : Jvm.RoadKit.slotOf Z "com/example/buurt/buurt/model/Bm25" "k1" "D" ≠ Jvm.RoadKit.slotOf Z "com/example/buurt/buurt/model/Bm25" "k3" "D" := slot_ne (Or.inr (own_w hw 63 rfl)) (Or.inr (own_w hw 67 rfl)) (by decide) (t := .double) (t' := .double) (by decide) (by decide)
theorem sn5 {Z : State} {a0 : Array Value} (hw : ∀ d ∈ tables_1, d.before a0 Z = true) : Jvm.RoadKit.slotOf Z "com/example/buurt/buurt/model/Bm25" "b" "D" ≠ Jvm.RoadKit.slotOf Z "com/example/buurt/buurt/model/Bm25" "k3" "D" := slot_ne (Or.inr (own_w hw 65 rfl)) (Or.inr (own_w hw 67 rfl)) (by decide) (t := .double) (t' := .double) (by decide) (by decide)
theorem d1_0 : decode prog_23_method_1_code 0 = .ok (.aload_n 0, 1) := by decide +kernel
theorem d1_1 : decode prog_23_method_1_code 1 = .ok (.invokespecial 1, 3) := by decide +kernel
theorem d1_4 : decode prog_23_method_1_code 4 = .ok (.ldc 7, 2) := by decide +kernel
theorem d1_6 : decode prog_23_method_1_code 6 = .ok (.dload_n 1, 1) := by decide +kernel
theorem d1_7 : decode prog_23_method_1_code 7 = .ok (.invokestatic 9, 3) := by decide +kernel
theorem d1_10 : decode prog_23_method_1_code 10 = .ok (.ldc 15, 2) := by decide +kernel
theorem d1_12 : decode prog_23_method_1_code 12 = .ok (.dload_n 3, 1) := by decide +kernel
theorem d1_13 : decode prog_23_method_1_code 13 = .ok (.invokestatic 17, 3) := by decide +kernel
theorem d1_16 : decode prog_23_method_1_code 16 = .ok (.ldc 22, 2) := by decide +kernel
theorem d1_18 : decode prog_23_method_1_code 18 = .ok (.dload 5, 2) := by decide +kernel
theorem d1_20 : decode prog_23_method_1_code 20 = .ok (.invokestatic 9, 3) := by decide +kernel
theorem d1_23 : decode prog_23_method_1_code 23 = .ok (.aload_n 0, 1) := by decide +kernel
theorem d1_24 : decode prog_23_method_1_code 24 = .ok (.dload_n 1, 1) := by decide +kernel
theorem d1_25 : decode prog_23_method_1_code 25 = .ok (.putfield 24, 3) := by decide +kernel
theorem d1_28 : decode prog_23_method_1_code 28 = .ok (.aload_n 0, 1) := by decide +kernel
theorem d1_29 : decode prog_23_method_1_code 29 = .ok (.dload_n 3, 1) := by decide +kernel
theorem d1_30 : decode prog_23_method_1_code 30 = .ok (.putfield 27, 3) := by decide +kernel
theorem d1_33 : decode prog_23_method_1_code 33 = .ok (.aload_n 0, 1) := by decide +kernel
theorem d1_34 : decode prog_23_method_1_code 34 = .ok (.dload 5, 2) := by decide +kernel
theorem d1_36 : decode prog_23_method_1_code 36 = .ok (.putfield 29, 3) := by decide +kernel
theorem d1_39 : decode prog_23_method_1_code 39 = .ok (.return_, 1) := by decide +kernel
theorem efm1 (m : MethodId) (r0 : Addr) (d1 : UInt64) (d2 : UInt64) (d3 : UInt64) : entryFrame m #[(.ref r0), (.double d1), (.double d2), (.double d3)] 7 = mkF m 0 #[.val (.ref r0), .val (.double d1), .second, .val (.double d2), .second, .val (.double d3), .second] [] := by first | (simp [entryFrame, mkF, argsToLocals, Value.category]; done) | rfl
def Qm1 (Z : State) (r0 : Addr) (d1 : UInt64) (d2 : UInt64) (d3 : UInt64) (u1 : Value) (u2 : Value) (u3 : Value) (h0 : Heap) (n0 : Nat) (v : Option Value) (h : Heap) (L : List Loc) : Prop := v = none ∧ Fr n0 L ∧ (Keep h0 h [r0]) ∧ (Exa Z h r0 "com/example/buurt/buurt/model/Bm25") ∧ (Fld Z h r0 "com/example/buurt/buurt/model/Bm25" "k1" "D" (.double d1)) ∧ (Fld Z h r0 "com/example/buurt/buurt/model/Bm25" "b" "D" (.double d2)) ∧ (Fld Z h r0 "com/example/buurt/buurt/model/Bm25" "k3" "D" (.double d3))
set_option maxRecDepth 65536 in
set_option maxHeartbeats 40000000 in
theorem rmm1 (l : Launch) (Z : State) (a0 : Array Value) (hw : ∀ d ∈ tables_1, d.before a0 Z = true) (ws : List Jvm.Cond) (r0 : Addr) (d1 : UInt64) (d2 : UInt64) (d3 : UInt64) (u1 : Value) (u2 : Value) (u3 : Value) (h0 : Heap) (n0 : Nat) (Z0 : n0 ≤ h0.size) (F_k1_r0 : Fld Z h0 r0 "com/example/buurt/buurt/model/Bm25" "k1" "D" u1) (F_b_r0 : Fld Z h0 r0 "com/example/buurt/buurt/model/Bm25" "b" "D" u2) (F_k3_r0 : Fld Z h0 r0 "com/example/buurt/buurt/model/Bm25" "k3" "D" u3) (E_r0 : Exa Z h0 r0 "com/example/buurt/buurt/model/Bm25") (g_r0 : n0 ≤ r0) (a1 : ¬ ((cmpValue (FP.dcmp d1 (0 : UInt64)) .l) < (0 : Int32))) (a2 : ¬ ((cmpValue (FP.dcmp d2 (0 : UInt64)) .l) < (0 : Int32))) (a3 : ¬ ((cmpValue (FP.dcmp d3 (0 : UInt64)) .l) < (0 : Int32))) (z1 : ¬ ((0 : Int32) < (cmpValue (FP.dcmp d1 (9218868437227405311 : UInt64)) .g))) (z2 : ¬ ((0 : Int32) < (cmpValue (FP.dcmp d2 (4607182418800017408 : UInt64)) .g))) (z3 : ¬ ((0 : Int32) < (cmpValue (FP.dcmp d3 (9218868437227405311 : UInt64)) .g))) :
    MetFree l (⟨"com/example/buurt/buurt/model/Bm25", "<init>", "(DDD)V"⟩ : MethodName) (head1 (Jvm.Cond.code (⟨"com/example/buurt/buurt/model/Bm25", "<init>", "(DDD)V"⟩ : MethodName) prog_23_method_1_code 7 none :: ws) ({ frames := 5, cells := 15, slots := 259, locals := 67 } : Room)) (fun a U => a = #[(.ref r0), (.double d1), (.double d2), (.double d3)] ∧ Z.Warmed39 U.vm ∧ U.heap = h0) (fun _ _ _ _ _ => True) (fun _ U o U' => ∃ v L, o = .returned v ∧ Qm1 Z r0 d1 d2 d3 u1 u2 u3 h0 n0 v U'.heap L ∧ ReturnedEndW U o U' L ({ frames := 5, cells := 15, slots := 259, locals := 67 } : Room).cells ({ frames := 5, cells := 15, slots := 259, locals := 67 } : Room).slots) := by
  refine MetFree.of_bodySF (plainFor_of_name pn4) hisR ?_
  intro p e s m args below meth c s₁ Bd hml0 hP hK
  obtain ⟨rfl, hZ, hh⟩ := hP
  have hx := Bd.exec
  have hby := Bd.bytes
  have hml : c.maxLocals = 7 := hml0
  have hown : s.vm.findClass "com/example/buurt/buurt/model/Bm25" = some m.cls := findClass_of_methodNamed Bd.named
  have hnm := (name_of_methodNamed Bd.named Bd.method).1
  have X0 : Stand p l e ({ frames := 5, cells := 15, slots := 259, locals := 67 } : Room) (s.setVm s.vm) m #[(.ref r0), (.double d1), (.double d2), (.double d3)] below meth c s₁ [] 0 0 := Stand.of_body Bd
  have e0 : s₁.heap = h0 := by rw [← hh, Bd.state]; rfl
  have N0 := Fr.nil n0
  have pre0 : ∀ t, Steps p.tables e below (s₁.setTop (mkF m 0 #[.val (.ref r0), .val (.double d1), .second, .val (.double d2), .second, .val (.double d3), .second] [])) t → Steps p.tables e below (s₁.setTop (entryFrame m #[(.ref r0), (.double d1), (.double d2), (.double d3)] 7)) t := fun t k => castTop (efm1 m r0 d1 d2 d3) k
  have hS0 := (State.WarmedH.refl s).since 0
  replace hZ : Z.Warmed39 (s.setVm s.vm).vm := hZ
  replace hown : (s.setVm s.vm).vm.findClass "com/example/buurt/buurt/model/Bm25" = some m.cls := hown
  obtain ⟨_, _, ⟨T101, L101, k101, n101⟩, -, X101, ⟨Lc101, hQ101, l101, y101, z101⟩, st101⟩ := X0.specialBack hx (y := (⟨"java/lang/Record", "<init>", "()V"⟩ : MethodName)) rfl hown (mvT hZ (own_w hw 10 rfl)) (mvT hZ (own_w hw 11 rfl)) (mvT hZ (own_w hw 14 rfl)) (by decide) (backOf (W := 0) (rmm2 l Z a0 hw [] r0 h0 n0 Z0 ) hZ (own_w hw 14 rfl) (own_w hw 13 rfl) (by decide) (by decide)) (g := (mkF m 1 #[.val (.ref r0), .val (.double d1), .second, .val (.double d2), .second, .val (.double d3), .second] [(.ref r0)])) rfl (by rw [hml]; rfl) (Steps.refl _) (a := r0) (argsL := []) (rest := []) (lenOf pd0 rfl) rfl (by show 2 * 0 + _ ≤ _; exact Nat.le_of_eq rfl) (hb hby d1_1) (fun _ _ => ⟨rfl, e0, (by decide : 0 + 0 ≤ _), (by decide : 0 + 0 ≤ _)⟩)
  dsimp only [Pt.U, Pt.locs, Pt.cells, Pt.slots] at X101 l101 y101 z101 st101 hQ101
  subst l101 y101 z101
  obtain ⟨rfl, Nq101, P101_0⟩ := hQ101
  have N101 := Fr.app N0 Nq101
  obtain ⟨b102, T102, h102, k102, X102, e102, E102, hS102, hk102, hZ102, how102, st102⟩ := ldcS (s := s) (vm0 := s.vm) X101 hx hZ hown (own_w hw 18 rfl) (own_str hw) P101_0 hS0 (Nat.zero_le _) (g := (mkF m 4 #[.val (.ref r0), .val (.double d1), .second, .val (.double d2), .second, .val (.double d3), .second] [])) rfl (hb hby d1_4) (n := 8) (by decide) (by decide) (by decide) (by decide)
  have ZZ103 : n0 ≤ h102.size := Nat.le_trans Z0 E102.1
  have KK104 : Keep h0 h102 [r0] := (Keep.refl h0 [r0]).ext E102
  obtain ⟨_, _, ⟨T105, L105, k105, n105⟩, -, Xr105, hSr105, hgr105, ⟨Lc105, hQ105, l105, y105, z105⟩, st105⟩ := Jvm.RoadKit.callSS X102 hx (y := (⟨"com/example/buurt/buurt/model/Bm25", "requireSaturation", "(Ljava/lang/String;D)V"⟩ : MethodName)) how102 (mvT hZ102 (own_w hw 26 rfl)) (mvT hZ102 (own_w hw 27 rfl)) (mvT hZ102 (own_w hw 5 rfl)) (mvT hZ102 (own_w hw 28 rfl)) (by decide) (backOfS (W := 0) (rmm4 l Z a0 hw [] b102 d1 h102 n0 ZZ103 a1 z1) hZ102 (own_w hw 28 rfl) (own_w hw 5 rfl) (by decide) (by decide)) (g := (mkF m 7 #[.val (.ref r0), .val (.double d1), .second, .val (.double d2), .second, .val (.double d3), .second] [(.double d1), (.ref b102)])) rfl (by rw [hml]; rfl) (argsL := [(.ref b102), (.double d1)]) (rest := []) (lenOf pd4 rfl) rfl (by show 2 * 0 + _ ≤ _; exact Nat.le_of_eq rfl) (hb hby d1_7) (fun _ _ => ⟨rfl, e102, (by decide : 2 + 3 ≤ _), (by decide : 12 + 89 ≤ _)⟩)
  dsimp only [Pt.U, Pt.locs, Pt.cells, Pt.slots] at Xr105 l105 y105 z105 st105 hQ105 hSr105 hgr105
  subst l105 y105 z105
  obtain ⟨X105, hS105⟩ := Stand.againW Xr105 hS102 hSr105 (Nat.le_trans (by rw [e102]; exact hk102) hgr105)
  have hZ105 : Z.Warmed39 (s.setVm T105.vm).vm := State.Warmed39.trans (t := s.setVm T102.vm) hZ102 hSr105.1
  have how105 : (s.setVm T105.vm).vm.findClass "com/example/buurt/buurt/model/Bm25" = some m.cls := by rw [show (s.setVm T105.vm).vm = T105.vm from rfl, hSr105.1.alike.findClass]; exact how102
  obtain ⟨rfl, Nq105, P105_0⟩ := hQ105
  have N105 := Fr.app N101 Nq105
  have ZZ106 : n0 ≤ T105.heap.size := Nat.le_trans ZZ103 P105_0.1
  have KK107 : Keep h0 T105.heap [r0] := Keep.trans KK104 P105_0 all0
  obtain ⟨b108, T108, h108, k108, X108, e108, E108, hS108, hk108, hZ108, how108, st108⟩ := ldcS (s := s) (vm0 := T105.vm) X105 hx hZ105 how105 (own_w hw 54 rfl) (own_str hw) rfl hS105 (Nat.le_refl _) (g := (mkF m 10 #[.val (.ref r0), .val (.double d1), .second, .val (.double d2), .second, .val (.double d3), .second] [])) rfl (hb hby d1_10) (n := 4) (by decide) (by decide) (by decide) (by decide)
  have ZZ109 : n0 ≤ h108.size := Nat.le_trans ZZ106 E108.1
  have KK110 : Keep h0 h108 [r0] := KK107.ext E108
  obtain ⟨_, _, ⟨T111, L111, k111, n111⟩, -, Xr111, hSr111, hgr111, ⟨Lc111, hQ111, l111, y111, z111⟩, st111⟩ := Jvm.RoadKit.callSS X108 hx (y := (⟨"com/example/buurt/buurt/model/Parameters", "requireFraction", "(Ljava/lang/String;D)V"⟩ : MethodName)) how108 (mvT hZ108 (own_w hw 55 rfl)) (mvT hZ108 (own_w hw 56 rfl)) (mvT hZ108 (own_w hw 52 rfl)) (mvT hZ108 (own_w hw 57 rfl)) (by decide) (backOfS (W := 0) (rmm9 l Z a0 hw [] b108 d2 h108 n0 ZZ109 a2 z2) hZ108 (own_w hw 57 rfl) (own_w hw 52 rfl) (by decide) (by decide)) (g := (mkF m 13 #[.val (.ref r0), .val (.double d1), .second, .val (.double d2), .second, .val (.double d3), .second] [(.double d2), (.ref b108)])) rfl (by rw [hml]; rfl) (argsL := [(.ref b108), (.double d2)]) (rest := []) (lenOf pd4 rfl) rfl (by show 2 * 0 + _ ≤ _; exact Nat.le_of_eq rfl) (hb hby d1_13) (fun _ _ => ⟨rfl, e108, (by decide : 7 + 3 ≤ _), (by decide : 109 + 49 ≤ _)⟩)
  dsimp only [Pt.U, Pt.locs, Pt.cells, Pt.slots] at Xr111 l111 y111 z111 st111 hQ111 hSr111 hgr111
  subst l111 y111 z111
  obtain ⟨X111, hS111⟩ := Stand.againW Xr111 hS108 hSr111 (Nat.le_trans (by rw [e108]; exact hk108) hgr111)
  have hZ111 : Z.Warmed39 (s.setVm T111.vm).vm := State.Warmed39.trans (t := s.setVm T108.vm) hZ108 hSr111.1
  have how111 : (s.setVm T111.vm).vm.findClass "com/example/buurt/buurt/model/Bm25" = some m.cls := by rw [show (s.setVm T111.vm).vm = T111.vm from rfl, hSr111.1.alike.findClass]; exact how108
  obtain ⟨rfl, Nq111, P111_0⟩ := hQ111
  have N111 := Fr.app N105 Nq111
  have ZZ112 : n0 ≤ T111.heap.size := Nat.le_trans ZZ109 P111_0.1
  have KK113 : Keep h0 T111.heap [r0] := Keep.trans KK110 P111_0 all0
  obtain ⟨b114, T114, h114, k114, X114, e114, E114, hS114, hk114, hZ114, how114, st114⟩ := ldcS (s := s) (vm0 := T111.vm) X111 hx hZ111 how111 (own_w hw 61 rfl) (own_str hw) rfl hS111 (Nat.le_refl _) (g := (mkF m 16 #[.val (.ref r0), .val (.double d1), .second, .val (.double d2), .second, .val (.double d3), .second] [])) rfl (hb hby d1_16) (n := 8) (by decide) (by decide) (by decide) (by decide)
  have ZZ115 : n0 ≤ h114.size := Nat.le_trans ZZ112 E114.1
  have KK116 : Keep h0 h114 [r0] := KK113.ext E114
  obtain ⟨_, _, ⟨T117, L117, k117, n117⟩, -, Xr117, hSr117, hgr117, ⟨Lc117, hQ117, l117, y117, z117⟩, st117⟩ := Jvm.RoadKit.callSS X114 hx (y := (⟨"com/example/buurt/buurt/model/Bm25", "requireSaturation", "(Ljava/lang/String;D)V"⟩ : MethodName)) how114 (mvT hZ114 (own_w hw 26 rfl)) (mvT hZ114 (own_w hw 27 rfl)) (mvT hZ114 (own_w hw 5 rfl)) (mvT hZ114 (own_w hw 28 rfl)) (by decide) (backOfS (W := 0) (rmm4 l Z a0 hw [] b114 d3 h114 n0 ZZ115 a3 z3) hZ114 (own_w hw 28 rfl) (own_w hw 5 rfl) (by decide) (by decide)) (g := (mkF m 20 #[.val (.ref r0), .val (.double d1), .second, .val (.double d2), .second, .val (.double d3), .second] [(.double d3), (.ref b114)])) rfl (by rw [hml]; rfl) (argsL := [(.ref b114), (.double d3)]) (rest := []) (lenOf pd4 rfl) rfl (by show 2 * 0 + _ ≤ _; exact Nat.le_of_eq rfl) (hb hby d1_20) (fun _ _ => ⟨rfl, e114, (by decide : 12 + 3 ≤ _), (by decide : 170 + 89 ≤ _)⟩)
  dsimp only [Pt.U, Pt.locs, Pt.cells, Pt.slots] at Xr117 l117 y117 z117 st117 hQ117 hSr117 hgr117
  subst l117 y117 z117
  obtain ⟨X117, hS117⟩ := Stand.againW Xr117 hS114 hSr117 (Nat.le_trans (by rw [e114]; exact hk114) hgr117)
  have hZ117 : Z.Warmed39 (s.setVm T117.vm).vm := State.Warmed39.trans (t := s.setVm T114.vm) hZ114 hSr117.1
  have how117 : (s.setVm T117.vm).vm.findClass "com/example/buurt/buurt/model/Bm25" = some m.cls := by rw [show (s.setVm T117.vm).vm = T117.vm from rfl, hSr117.1.alike.findClass]; exact how114
  obtain ⟨rfl, Nq117, P117_0⟩ := hQ117
  have N117 := Fr.app N111 Nq117
  have ZZ118 : n0 ≤ T117.heap.size := Nat.le_trans ZZ115 P117_0.1
  have KK119 : Keep h0 T117.heap [r0] := Keep.trans KK116 P117_0 all0
  have Fc120 := ((((((F_k1_r0.ext E102).keep P105_0 nin0).ext E108).keep P111_0 nin0).ext E114).keep P117_0 nin0)
  have Fc121 := ((((((E_r0.ext E102).keep P105_0).ext E108).keep P111_0).ext E114).keep P117_0)
  obtain ⟨T122, h122, X122, e122, W122, st122⟩ := putF X117 hx hZ117 how117 (host := "") (Or.inl (own_w hw 62 rfl)) Via.refl rfl Fc120 Fc121 (Or.inr ⟨(own_w hw 63 rfl), rfl, hnm⟩) (own_w hw 4 rfl) (ty := .double) (by decide) rfl rfl (g := (mkF m 25 #[.val (.ref r0), .val (.double d1), .second, .val (.double d2), .second, .val (.double d3), .second] [(.double d1), (.ref r0)])) rfl rfl (hb hby d1_25)
  have Fw122 := Fc120.same W122
  have N122 := Fr.snoc X122 N117 g_r0
  have SK123 := Nat.le_trans (Nat.le_refl _) (Nat.le_of_eq W122.size.symm)
  have ZZ124 : n0 ≤ h122.size := Nat.le_trans ZZ118 (Nat.le_of_eq W122.size.symm)
  have KK125 : Keep h0 h122 [r0] := KK119.wr W122 (Or.inl (List.mem_of_getElem? (i := 0) rfl))
  have Fc126 := (((((((F_b_r0.ext E102).keep P105_0 nin0).ext E108).keep P111_0 nin0).ext E114).keep P117_0 nin0).other W122 (Or.inr (sn0 hw)))
  obtain ⟨T127, h127, X127, e127, W127, st127⟩ := putF X122 hx hZ117 how117 (host := "") (Or.inl (own_w hw 64 rfl)) Via.refl e122 Fc126 (Fc121.wr W122) (Or.inr ⟨(own_w hw 65 rfl), rfl, hnm⟩) (own_w hw 4 rfl) (ty := .double) (by decide) rfl rfl (g := (mkF m 30 #[.val (.ref r0), .val (.double d1), .second, .val (.double d2), .second, .val (.double d3), .second] [(.double d2), (.ref r0)])) rfl rfl (hb hby d1_30)
  have Fw127 := Fc126.same W127
  have N127 := Fr.snoc X127 N122 g_r0
  have SK128 := Nat.le_trans SK123 (Nat.le_of_eq W127.size.symm)
  have ZZ129 : n0 ≤ h127.size := Nat.le_trans ZZ124 (Nat.le_of_eq W127.size.symm)
  have KK130 : Keep h0 h127 [r0] := KK125.wr W127 (Or.inl (List.mem_of_getElem? (i := 0) rfl))
  have Fc131 := ((((((((F_k3_r0.ext E102).keep P105_0 nin0).ext E108).keep P111_0 nin0).ext E114).keep P117_0 nin0).other W122 (Or.inr (sn1 hw))).other W127 (Or.inr (sn2 hw)))
  have Fc132 := ((Fc121.wr W122).wr W127)
  obtain ⟨T133, h133, X133, e133, W133, st133⟩ := putF X127 hx hZ117 how117 (host := "") (Or.inl (own_w hw 66 rfl)) Via.refl e127 Fc131 Fc132 (Or.inr ⟨(own_w hw 67 rfl), rfl, hnm⟩) (own_w hw 4 rfl) (ty := .double) (by decide) rfl rfl (g := (mkF m 36 #[.val (.ref r0), .val (.double d1), .second, .val (.double d2), .second, .val (.double d3), .second] [(.double d3), (.ref r0)])) rfl rfl (hb hby d1_36)
  have Fw133 := Fc131.same W133
  have N133 := Fr.snoc X133 N127 g_r0
  have SK134 := Nat.le_trans SK128 (Nat.le_of_eq W133.size.symm)
  have ZZ135 : n0 ≤ h133.size := Nat.le_trans ZZ129 (Nat.le_of_eq W133.size.symm)
  have KK136 : Keep h0 h133 [r0] := KK130.wr W133 (Or.inl (List.mem_of_getElem? (i := 0) rfl))
  obtain ⟨fs, hr, hrun, hended, hREW⟩ := X133.leaveW hS117 (by rw [e133]; exact SK134) (v := none) (fun _ => rfl)
  refine ⟨_, _, pre0 _ ?_, hrun, hended, _, _, rfl, ?_, hREW.1, hREW.2.1, hREW.2.2.1, hREW.2.2.2.mono (by decide) (by decide)⟩
  · show own_S p e below s₁ m 0 #[oR r0, oD d1, oV, oD d2, oV, oD d3, oV] [] _
    refine XS.aloadN X0.here hx rfl (hb hby d1_0) rfl rfl ?_
    show own_S p e below s₁ m 1 #[oR r0, oD d1, oV, oD d2, oV, oD d3, oV] [(.ref r0)] _
    refine st101.trans ?_
    show own_S p e below T101 m 4 #[oR r0, oD d1, oV, oD d2, oV, oD d3, oV] [] _
    refine st102 _ ?_
    show own_S p e below T102 m 6 #[oR r0, oD d1, oV, oD d2, oV, oD d3, oV] [(.ref b102)] _
    refine XS.dloadN X102.here hx rfl (hb hby d1_6) rfl ?_
    show own_S p e below T102 m 7 #[oR r0, oD d1, oV, oD d2, oV, oD d3, oV] [(.double d1), (.ref b102)] _
    refine st105.trans ?_
    show own_S p e below T105 m 10 #[oR r0, oD d1, oV, oD d2, oV, oD d3, oV] [] _
    refine st108 _ ?_
    show own_S p e below T108 m 12 #[oR r0, oD d1, oV, oD d2, oV, oD d3, oV] [(.ref b108)] _
    refine XS.dloadN X108.here hx rfl (hb hby d1_12) rfl ?_
    show own_S p e below T108 m 13 #[oR r0, oD d1, oV, oD d2, oV, oD d3, oV] [(.double d2), (.ref b108)] _
    refine st111.trans ?_
    show own_S p e below T111 m 16 #[oR r0, oD d1, oV, oD d2, oV, oD d3, oV] [] _
    refine st114 _ ?_
    show own_S p e below T114 m 18 #[oR r0, oD d1, oV, oD d2, oV, oD d3, oV] [(.ref b114)] _
    refine XS.dload X114.here hx rfl (hb hby d1_18) rfl ?_
    show own_S p e below T114 m 20 #[oR r0, oD d1, oV, oD d2, oV, oD d3, oV] [(.double d3), (.ref b114)] _
    refine st117.trans ?_
    show own_S p e below T117 m 23 #[oR r0, oD d1, oV, oD d2, oV, oD d3, oV] [] _
    refine XS.aloadN X117.here hx rfl (hb hby d1_23) rfl rfl ?_
    show own_S p e below T117 m 24 #[oR r0, oD d1, oV, oD d2, oV, oD d3, oV] [(.ref r0)] _
    refine XS.dloadN X117.here hx rfl (hb hby d1_24) rfl ?_
    show own_S p e below T117 m 25 #[oR r0, oD d1, oV, oD d2, oV, oD d3, oV] [(.double d1), (.ref r0)] _
    refine st122 _ ?_
    show own_S p e below T122 m 28 #[oR r0, oD d1, oV, oD d2, oV, oD d3, oV] [] _
    refine XS.aloadN X122.here hx rfl (hb hby d1_28) rfl rfl ?_
    show own_S p e below T122 m 29 #[oR r0, oD d1, oV, oD d2, oV, oD d3, oV] [(.ref r0)] _
    refine XS.dloadN X122.here hx rfl (hb hby d1_29) rfl ?_
    show own_S p e below T122 m 30 #[oR r0, oD d1, oV, oD d2, oV, oD d3, oV] [(.double d2), (.ref r0)] _
    refine st127 _ ?_
    show own_S p e below T127 m 33 #[oR r0, oD d1, oV, oD d2, oV, oD d3, oV] [] _
    refine XS.aloadN X127.here hx rfl (hb hby d1_33) rfl rfl ?_
    show own_S p e below T127 m 34 #[oR r0, oD d1, oV, oD d2, oV, oD d3, oV] [(.ref r0)] _
    refine XS.dload X127.here hx rfl (hb hby d1_34) rfl ?_
    show own_S p e below T127 m 36 #[oR r0, oD d1, oV, oD d2, oV, oD d3, oV] [(.double d3), (.ref r0)] _
    refine st133 _ ?_
    show own_S p e below T133 m 39 #[oR r0, oD d1, oV, oD d2, oV, oD d3, oV] [] _
    exact X133.returnOut hx Bd.returns (hb hby d1_39) hr
  · show Qm1 Z r0 d1 d2 d3 u1 u2 u3 h0 n0 _ T133.heap _
    rw [e133]
    exact ⟨rfl, N133, KK136, (Fc132.wr W133), ((Fw122.other W127 (Or.inr (sn3 hw))).other W133 (Or.inr (sn4 hw))), (Fw127.other W133 (Or.inr (sn5 hw))), Fw133⟩
theorem d10_0 : decode prog_23_method_3_code 0 = .ok (.dload_n 1, 1) := by decide +kernel
theorem d10_1 : decode prog_23_method_3_code 1 = .ok (.dconst 0, 1) := by decide +kernel
theorem d10_2 : decode prog_23_method_3_code 2 = .ok (.dcmp .l, 1) := by decide +kernel
theorem d10_3 : decode prog_23_method_3_code 3 = .ok (.ifCond .eq 9, 3) := by decide +kernel
theorem d10_6 : decode prog_23_method_3_code 6 = .ok (.dload_n 3, 1) := by decide +kernel
theorem d10_7 : decode prog_23_method_3_code 7 = .ok (.dconst 0, 1) := by decide +kernel
theorem d10_8 : decode prog_23_method_3_code 8 = .ok (.dcmp .l, 1) := by decide +kernel
theorem d10_9 : decode prog_23_method_3_code 9 = .ok (.ifCond .ne 5, 3) := by decide +kernel
theorem d10_14 : decode prog_23_method_3_code 14 = .ok (.aload_n 0, 1) := by decide +kernel
theorem d10_15 : decode prog_23_method_3_code 15 = .ok (.getfield 24, 3) := by decide +kernel
theorem d10_18 : decode prog_23_method_3_code 18 = .ok (.dconst 1, 1) := by decide +kernel
theorem d10_19 : decode prog_23_method_3_code 19 = .ok (.aload_n 0, 1) := by decide +kernel
theorem d10_20 : decode prog_23_method_3_code 20 = .ok (.getfield 27, 3) := by decide +kernel
theorem d10_23 : decode prog_23_method_3_code 23 = .ok (.dsub, 1) := by decide +kernel
theorem d10_24 : decode prog_23_method_3_code 24 = .ok (.aload_n 0, 1) := by decide +kernel
theorem d10_25 : decode prog_23_method_3_code 25 = .ok (.getfield 27, 3) := by decide +kernel
theorem d10_28 : decode prog_23_method_3_code 28 = .ok (.dload 7, 2) := by decide +kernel
theorem d10_30 : decode prog_23_method_3_code 30 = .ok (.dmul, 1) := by decide +kernel
theorem d10_31 : decode prog_23_method_3_code 31 = .ok (.dload 9, 2) := by decide +kernel
theorem d10_33 : decode prog_23_method_3_code 33 = .ok (.ddiv, 1) := by decide +kernel
theorem d10_34 : decode prog_23_method_3_code 34 = .ok (.dadd, 1) := by decide +kernel
theorem d10_35 : decode prog_23_method_3_code 35 = .ok (.dmul, 1) := by decide +kernel
theorem d10_36 : decode prog_23_method_3_code 36 = .ok (.dstore 11, 2) := by decide +kernel
theorem d10_38 : decode prog_23_method_3_code 38 = .ok (.aload_n 0, 1) := by decide +kernel
theorem d10_39 : decode prog_23_method_3_code 39 = .ok (.getfield 24, 3) := by decide +kernel
theorem d10_42 : decode prog_23_method_3_code 42 = .ok (.dconst 1, 1) := by decide +kernel
theorem d10_43 : decode prog_23_method_3_code 43 = .ok (.dadd, 1) := by decide +kernel
theorem d10_44 : decode prog_23_method_3_code 44 = .ok (.dload_n 1, 1) := by decide +kernel
theorem d10_45 : decode prog_23_method_3_code 45 = .ok (.dmul, 1) := by decide +kernel
theorem d10_46 : decode prog_23_method_3_code 46 = .ok (.dload 11, 2) := by decide +kernel
theorem d10_48 : decode prog_23_method_3_code 48 = .ok (.dload_n 1, 1) := by decide +kernel
theorem d10_49 : decode prog_23_method_3_code 49 = .ok (.dadd, 1) := by decide +kernel
theorem d10_50 : decode prog_23_method_3_code 50 = .ok (.ddiv, 1) := by decide +kernel
theorem d10_51 : decode prog_23_method_3_code 51 = .ok (.aload_n 0, 1) := by decide +kernel
theorem d10_52 : decode prog_23_method_3_code 52 = .ok (.getfield 29, 3) := by decide +kernel
theorem d10_55 : decode prog_23_method_3_code 55 = .ok (.dconst 1, 1) := by decide +kernel
theorem d10_56 : decode prog_23_method_3_code 56 = .ok (.dadd, 1) := by decide +kernel
theorem d10_57 : decode prog_23_method_3_code 57 = .ok (.dmul, 1) := by decide +kernel
theorem d10_58 : decode prog_23_method_3_code 58 = .ok (.dload_n 3, 1) := by decide +kernel
theorem d10_59 : decode prog_23_method_3_code 59 = .ok (.dmul, 1) := by decide +kernel
theorem d10_60 : decode prog_23_method_3_code 60 = .ok (.aload_n 0, 1) := by decide +kernel
theorem d10_61 : decode prog_23_method_3_code 61 = .ok (.getfield 29, 3) := by decide +kernel
theorem d10_64 : decode prog_23_method_3_code 64 = .ok (.dload_n 3, 1) := by decide +kernel
theorem d10_65 : decode prog_23_method_3_code 65 = .ok (.dadd, 1) := by decide +kernel
theorem d10_66 : decode prog_23_method_3_code 66 = .ok (.ddiv, 1) := by decide +kernel
theorem d10_67 : decode prog_23_method_3_code 67 = .ok (.dload 5, 2) := by decide +kernel
theorem d10_69 : decode prog_23_method_3_code 69 = .ok (.dmul, 1) := by decide +kernel
theorem d10_70 : decode prog_23_method_3_code 70 = .ok (.dreturn, 1) := by decide +kernel
theorem efm10 (m : MethodId) (r0 : Addr) (d1 : UInt64) (d2 : UInt64) (d3 : UInt64) (d4 : UInt64) (d5 : UInt64) : entryFrame m #[(.ref r0), (.double d1), (.double d2), (.double d3), (.double d4), (.double d5)] 13 = mkF m 0 #[.val (.ref r0), .val (.double d1), .second, .val (.double d2), .second, .val (.double d3), .second, .val (.double d4), .second, .val (.double d5), .second, .unset, .unset] [] := by first | (simp [entryFrame, mkF, argsToLocals, Value.category]; done) | rfl
def Qm10 (Z : State) (r0 : Addr) (d1 : UInt64) (d2 : UInt64) (d3 : UInt64) (d4 : UInt64) (d5 : UInt64) (w1 : UInt64) (w2 : UInt64) (w3 : UInt64) (h0 : Heap) (n0 : Nat) (v : Option Value) (h : Heap) (L : List Loc) : Prop := v = some (.double (FP.dmul (FP.ddiv (FP.dmul (FP.dmul (FP.ddiv (FP.dmul (FP.dadd w1 (4607182418800017408 : UInt64)) d1) (FP.dadd (FP.dmul w1 (FP.dadd (FP.dsub (4607182418800017408 : UInt64) w2) (FP.ddiv (FP.dmul w2 d4) d5))) d1)) (FP.dadd w3 (4607182418800017408 : UInt64))) d2) (FP.dadd w3 d2)) d3)) ∧ Fr n0 L ∧ (h = h0)
set_option maxRecDepth 65536 in
set_option maxHeartbeats 40000000 in
theorem rmm10 (l : Launch) (Z : State) (a0 : Array Value) (hw : ∀ d ∈ tables_1, d.before a0 Z = true) (ws : List Jvm.Cond) (r0 : Addr) (d1 : UInt64) (d2 : UInt64) (d3 : UInt64) (d4 : UInt64) (d5 : UInt64) (w1 : UInt64) (w2 : UInt64) (w3 : UInt64) (h0 : Heap) (n0 : Nat) (Z0 : n0 ≤ h0.size) (F_k1_r0 : Fld Z h0 r0 "com/example/buurt/buurt/model/Bm25" "k1" "D" (.double w1)) (F_b_r0 : Fld Z h0 r0 "com/example/buurt/buurt/model/Bm25" "b" "D" (.double w2)) (F_k3_r0 : Fld Z h0 r0 "com/example/buurt/buurt/model/Bm25" "k3" "D" (.double w3)) (hc2 : cmpValue (FP.dcmp d1 (0 : UInt64)) .l = 1) (hc8 : cmpValue (FP.dcmp d2 (0 : UInt64)) .l = 1) (hn23 : NoNaN64 (FP.dsub (4607182418800017408 : UInt64) w2)) (hn30 : NoNaN64 (FP.dmul w2 d4)) (hn33 : NoNaN64 (FP.ddiv (FP.dmul w2 d4) d5)) (hn34 : NoNaN64 (FP.dadd (FP.dsub (4607182418800017408 : UInt64) w2) (FP.ddiv (FP.dmul w2 d4) d5))) (hn35 : NoNaN64 (FP.dmul w1 (FP.dadd (FP.dsub (4607182418800017408 : UInt64) w2) (FP.ddiv (FP.dmul w2 d4) d5)))) (hn43 : NoNaN64 (FP.dadd w1 (4607182418800017408 : UInt64))) (hn45 : NoNaN64 (FP.dmul (FP.dadd w1 (4607182418800017408 : UInt64)) d1)) (hn49 : NoNaN64 (FP.dadd (FP.dmul w1 (FP.dadd (FP.dsub (4607182418800017408 : UInt64) w2) (FP.ddiv (FP.dmul w2 d4) d5))) d1)) (hn50 : NoNaN64 (FP.ddiv (FP.dmul (FP.dadd w1 (4607182418800017408 : UInt64)) d1) (FP.dadd (FP.dmul w1 (FP.dadd (FP.dsub (4607182418800017408 : UInt64) w2) (FP.ddiv (FP.dmul w2 d4) d5))) d1))) (hn56 : NoNaN64 (FP.dadd w3 (4607182418800017408 : UInt64))) (hn57 : NoNaN64 (FP.dmul (FP.ddiv (FP.dmul (FP.dadd w1 (4607182418800017408 : UInt64)) d1) (FP.dadd (FP.dmul w1 (FP.dadd (FP.dsub (4607182418800017408 : UInt64) w2) (FP.ddiv (FP.dmul w2 d4) d5))) d1)) (FP.dadd w3 (4607182418800017408 : UInt64)))) (hn59 : NoNaN64 (FP.dmul (FP.dmul (FP.ddiv (FP.dmul (FP.dadd w1 (4607182418800017408 : UInt64)) d1) (FP.dadd (FP.dmul w1 (FP.dadd (FP.dsub (4607182418800017408 : UInt64) w2) (FP.ddiv (FP.dmul w2 d4) d5))) d1)) (FP.dadd w3 (4607182418800017408 : UInt64))) d2)) (hn65 : NoNaN64 (FP.dadd w3 d2)) (hn66 : NoNaN64 (FP.ddiv (FP.dmul (FP.dmul (FP.ddiv (FP.dmul (FP.dadd w1 (4607182418800017408 : UInt64)) d1) (FP.dadd (FP.dmul w1 (FP.dadd (FP.dsub (4607182418800017408 : UInt64) w2) (FP.ddiv (FP.dmul w2 d4) d5))) d1)) (FP.dadd w3 (4607182418800017408 : UInt64))) d2) (FP.dadd w3 d2))) (hn69 : NoNaN64 (FP.dmul (FP.ddiv (FP.dmul (FP.dmul (FP.ddiv (FP.dmul (FP.dadd w1 (4607182418800017408 : UInt64)) d1) (FP.dadd (FP.dmul w1 (FP.dadd (FP.dsub (4607182418800017408 : UInt64) w2) (FP.ddiv (FP.dmul w2 d4) d5))) d1)) (FP.dadd w3 (4607182418800017408 : UInt64))) d2) (FP.dadd w3 d2)) d3)) :
    MetFree l (⟨"com/example/buurt/buurt/model/Bm25", "weight", "(DDDDD)D"⟩ : MethodName) (head1 (Jvm.Cond.code (⟨"com/example/buurt/buurt/model/Bm25", "weight", "(DDDDD)D"⟩ : MethodName) prog_23_method_3_code 13 (some .double) :: ws) ({ frames := 0, cells := 0, slots := 0, locals := 0 } : Room)) (fun a U => a = #[(.ref r0), (.double d1), (.double d2), (.double d3), (.double d4), (.double d5)] ∧ Z.Warmed39 U.vm ∧ U.heap = h0) (fun _ _ _ _ _ => True) (fun _ U o U' => ∃ v L, o = .returned v ∧ Qm10 Z r0 d1 d2 d3 d4 d5 w1 w2 w3 h0 n0 v U'.heap L ∧ FrameEnd U o U' L ({ frames := 0, cells := 0, slots := 0, locals := 0 } : Room).cells ({ frames := 0, cells := 0, slots := 0, locals := 0 } : Room).slots) := by
  refine MetFree.of_bodySF (plainFor_of_name pn4) hisR ?_
  intro p e s m args below meth c s₁ Bd hml0 hP hK
  obtain ⟨rfl, hZ, hh⟩ := hP
  have hx := Bd.exec
  have hby := Bd.bytes
  have hml : c.maxLocals = 13 := hml0
  have hown : s.vm.findClass "com/example/buurt/buurt/model/Bm25" = some m.cls := findClass_of_methodNamed Bd.named
  have hnm := (name_of_methodNamed Bd.named Bd.method).1
  have X0 : Stand p l e ({ frames := 0, cells := 0, slots := 0, locals := 0 } : Room) s m #[(.ref r0), (.double d1), (.double d2), (.double d3), (.double d4), (.double d5)] below meth c s₁ [] 0 0 := Stand.of_body Bd
  have e0 : s₁.heap = h0 := by rw [← hh, Bd.state]; rfl
  have N0 := Fr.nil n0
  have pre0 : ∀ t, Steps p.tables e below (s₁.setTop (mkF m 0 #[.val (.ref r0), .val (.double d1), .second, .val (.double d2), .second, .val (.double d3), .second, .val (.double d4), .second, .val (.double d5), .second, .unset, .unset] [])) t → Steps p.tables e below (s₁.setTop (entryFrame m #[(.ref r0), (.double d1), (.double d2), (.double d3), (.double d4), (.double d5)] 13)) t := fun t k => castTop (efm10 m r0 d1 d2 d3 d4 d5) k
  obtain ⟨T101, X101, e101, st101⟩ := getF X0 hx hZ hown (host := "") (Or.inl (own_w hw 62 rfl)) Via.refl e0 F_k1_r0 (g := (mkF m 15 #[.val (.ref r0), .val (.double d1), .second, .val (.double d2), .second, .val (.double d3), .second, .val (.double d4), .second, .val (.double d5), .second, .unset, .unset] [(.ref r0)])) rfl rfl (hb hby d10_15)
  obtain ⟨T102, X102, e102, st102⟩ := getF X101 hx hZ hown (host := "") (Or.inl (own_w hw 64 rfl)) Via.refl e101 F_b_r0 (g := (mkF m 20 #[.val (.ref r0), .val (.double d1), .second, .val (.double d2), .second, .val (.double d3), .second, .val (.double d4), .second, .val (.double d5), .second, .unset, .unset] [(.ref r0), (.double 4607182418800017408), (.double w1)])) rfl rfl (hb hby d10_20)
  obtain ⟨T103, X103, e103, st103⟩ := getF X102 hx hZ hown (host := "") (Or.inl (own_w hw 64 rfl)) Via.refl e102 F_b_r0 (g := (mkF m 25 #[.val (.ref r0), .val (.double d1), .second, .val (.double d2), .second, .val (.double d3), .second, .val (.double d4), .second, .val (.double d5), .second, .unset, .unset] [(.ref r0), (.double (FP.dsub (4607182418800017408 : UInt64) w2)), (.double w1)])) rfl rfl (hb hby d10_25)
  obtain ⟨T104, X104, e104, st104⟩ := getF X103 hx hZ hown (host := "") (Or.inl (own_w hw 62 rfl)) Via.refl e103 F_k1_r0 (g := (mkF m 39 #[.val (.ref r0), .val (.double d1), .second, .val (.double d2), .second, .val (.double d3), .second, .val (.double d4), .second, .val (.double d5), .second, .val (.double (FP.dmul w1 (FP.dadd (FP.dsub (4607182418800017408 : UInt64) w2) (FP.ddiv (FP.dmul w2 d4) d5)))), .second] [(.ref r0)])) rfl rfl (hb hby d10_39)
  obtain ⟨T105, X105, e105, st105⟩ := getF X104 hx hZ hown (host := "") (Or.inl (own_w hw 66 rfl)) Via.refl e104 F_k3_r0 (g := (mkF m 52 #[.val (.ref r0), .val (.double d1), .second, .val (.double d2), .second, .val (.double d3), .second, .val (.double d4), .second, .val (.double d5), .second, .val (.double (FP.dmul w1 (FP.dadd (FP.dsub (4607182418800017408 : UInt64) w2) (FP.ddiv (FP.dmul w2 d4) d5)))), .second] [(.ref r0), (.double (FP.ddiv (FP.dmul (FP.dadd w1 (4607182418800017408 : UInt64)) d1) (FP.dadd (FP.dmul w1 (FP.dadd (FP.dsub (4607182418800017408 : UInt64) w2) (FP.ddiv (FP.dmul w2 d4) d5))) d1)))])) rfl rfl (hb hby d10_52)
  obtain ⟨T106, X106, e106, st106⟩ := getF X105 hx hZ hown (host := "") (Or.inl (own_w hw 66 rfl)) Via.refl e105 F_k3_r0 (g := (mkF m 61 #[.val (.ref r0), .val (.double d1), .second, .val (.double d2), .second, .val (.double d3), .second, .val (.double d4), .second, .val (.double d5), .second, .val (.double (FP.dmul w1 (FP.dadd (FP.dsub (4607182418800017408 : UInt64) w2) (FP.ddiv (FP.dmul w2 d4) d5)))), .second] [(.ref r0), (.double (FP.dmul (FP.dmul (FP.ddiv (FP.dmul (FP.dadd w1 (4607182418800017408 : UInt64)) d1) (FP.dadd (FP.dmul w1 (FP.dadd (FP.dsub (4607182418800017408 : UInt64) w2) (FP.ddiv (FP.dmul w2 d4) d5))) d1)) (FP.dadd w3 (4607182418800017408 : UInt64))) d2))])) rfl rfl (hb hby d10_61)
  obtain ⟨fs, hr, hrun, hended, hW, hsame⟩ := X106.leave (v := some (.double (FP.dmul (FP.ddiv (FP.dmul (FP.dmul (FP.ddiv (FP.dmul (FP.dadd w1 (4607182418800017408 : UInt64)) d1) (FP.dadd (FP.dmul w1 (FP.dadd (FP.dsub (4607182418800017408 : UInt64) w2) (FP.ddiv (FP.dmul w2 d4) d5))) d1)) (FP.dadd w3 (4607182418800017408 : UInt64))) d2) (FP.dadd w3 d2)) d3))) (fun h => by rw [Bd.returns] at h; cases h)
  refine ⟨_, _, pre0 _ ?_, hrun, hended, _, _, rfl, ?_, ⟨_, rfl⟩, hW, hsame.mono (by decide) (by decide)⟩
  · show own_S p e below s₁ m 0 #[oR r0, oD d1, oV, oD d2, oV, oD d3, oV, oD d4, oV, oD d5, oV, oU, oU] [] _
    refine XS.dloadN X0.here hx rfl (hb hby d10_0) rfl ?_
    show own_S p e below s₁ m 1 #[oR r0, oD d1, oV, oD d2, oV, oD d3, oV, oD d4, oV, oD d5, oV, oU, oU] [(.double d1)] _
    refine XS.dconst0 X0.here hx rfl (v := 0) (hb hby d10_1) rfl ?_
    show own_S p e below s₁ m 2 #[oR r0, oD d1, oV, oD d2, oV, oD d3, oV, oD d4, oV, oD d5, oV, oU, oU] [(.double 0), (.double d1)] _
    refine XS.dcmpS X0.here hx rfl (v := (1 : Int32)) (hb hby d10_2) rfl hc2 ?_
    show own_S p e below s₁ m 3 #[oR r0, oD d1, oV, oD d2, oV, oD d3, oV, oD d4, oV, oD d5, oV, oU, oU] [(.int 1)] _
    refine XS.ifNo X0.here hx rfl (hb hby d10_3) rfl ((if0 _ _).trans (feq (by decide : ¬ ((1 : Int32) = (0 : Int32)))).1) ?_
    show own_S p e below s₁ m 6 #[oR r0, oD d1, oV, oD d2, oV, oD d3, oV, oD d4, oV, oD d5, oV, oU, oU] [] _
    refine XS.dloadN X0.here hx rfl (hb hby d10_6) rfl ?_
    show own_S p e below s₁ m 7 #[oR r0, oD d1, oV, oD d2, oV, oD d3, oV, oD d4, oV, oD d5, oV, oU, oU] [(.double d2)] _
    refine XS.dconst0 X0.here hx rfl (v := 0) (hb hby d10_7) rfl ?_
    show own_S p e below s₁ m 8 #[oR r0, oD d1, oV, oD d2, oV, oD d3, oV, oD d4, oV, oD d5, oV, oU, oU] [(.double 0), (.double d2)] _
    refine XS.dcmpS X0.here hx rfl (v := (1 : Int32)) (hb hby d10_8) rfl hc8 ?_
    show own_S p e below s₁ m 9 #[oR r0, oD d1, oV, oD d2, oV, oD d3, oV, oD d4, oV, oD d5, oV, oU, oU] [(.int 1)] _
    refine XS.ifYes X0.here hx rfl (pc0 := 9) (pc' := 14) rfl (hb hby d10_9) rfl ((if0 _ _).trans (feq (by decide : ¬ ((1 : Int32) = (0 : Int32)))).2) (by decide) (by decide) ?_
    show own_S p e below s₁ m 14 #[oR r0, oD d1, oV, oD d2, oV, oD d3, oV, oD d4, oV, oD d5, oV, oU, oU] [] _
    refine XS.aloadN X0.here hx rfl (hb hby d10_14) rfl rfl ?_
    show own_S p e below s₁ m 15 #[oR r0, oD d1, oV, oD d2, oV, oD d3, oV, oD d4, oV, oD d5, oV, oU, oU] [(.ref r0)] _
    refine st101 _ ?_
    show own_S p e below T101 m 18 #[oR r0, oD d1, oV, oD d2, oV, oD d3, oV, oD d4, oV, oD d5, oV, oU, oU] [(.double w1)] _
    refine XS.dconst1 X101.here hx rfl (v := 4607182418800017408) (hb hby d10_18) rfl ?_
    show own_S p e below T101 m 19 #[oR r0, oD d1, oV, oD d2, oV, oD d3, oV, oD d4, oV, oD d5, oV, oU, oU] [(.double 4607182418800017408), (.double w1)] _
    refine XS.aloadN X101.here hx rfl (hb hby d10_19) rfl rfl ?_
    show own_S p e below T101 m 20 #[oR r0, oD d1, oV, oD d2, oV, oD d3, oV, oD d4, oV, oD d5, oV, oU, oU] [(.ref r0), (.double 4607182418800017408), (.double w1)] _
    refine st102 _ ?_
    show own_S p e below T102 m 23 #[oR r0, oD d1, oV, oD d2, oV, oD d3, oV, oD d4, oV, oD d5, oV, oU, oU] [(.double w2), (.double 4607182418800017408), (.double w1)] _
    refine XS.dsubS X102.here hx rfl (v := (FP.dsub (4607182418800017408 : UInt64) w2)) (hb hby d10_23) rfl hn23 rfl ?_
    show own_S p e below T102 m 24 #[oR r0, oD d1, oV, oD d2, oV, oD d3, oV, oD d4, oV, oD d5, oV, oU, oU] [(.double (FP.dsub (4607182418800017408 : UInt64) w2)), (.double w1)] _
    refine XS.aloadN X102.here hx rfl (hb hby d10_24) rfl rfl ?_
    show own_S p e below T102 m 25 #[oR r0, oD d1, oV, oD d2, oV, oD d3, oV, oD d4, oV, oD d5, oV, oU, oU] [(.ref r0), (.double (FP.dsub (4607182418800017408 : UInt64) w2)), (.double w1)] _
    refine st103 _ ?_
    show own_S p e below T103 m 28 #[oR r0, oD d1, oV, oD d2, oV, oD d3, oV, oD d4, oV, oD d5, oV, oU, oU] [(.double w2), (.double (FP.dsub (4607182418800017408 : UInt64) w2)), (.double w1)] _
    refine XS.dload X103.here hx rfl (hb hby d10_28) rfl ?_
    show own_S p e below T103 m 30 #[oR r0, oD d1, oV, oD d2, oV, oD d3, oV, oD d4, oV, oD d5, oV, oU, oU] [(.double d4), (.double w2), (.double (FP.dsub (4607182418800017408 : UInt64) w2)), (.double w1)] _
    refine XS.dmulS X103.here hx rfl (v := (FP.dmul w2 d4)) (hb hby d10_30) rfl hn30 rfl ?_
    show own_S p e below T103 m 31 #[oR r0, oD d1, oV, oD d2, oV, oD d3, oV, oD d4, oV, oD d5, oV, oU, oU] [(.double (FP.dmul w2 d4)), (.double (FP.dsub (4607182418800017408 : UInt64) w2)), (.double w1)] _
    refine XS.dload X103.here hx rfl (hb hby d10_31) rfl ?_
    show own_S p e below T103 m 33 #[oR r0, oD d1, oV, oD d2, oV, oD d3, oV, oD d4, oV, oD d5, oV, oU, oU] [(.double d5), (.double (FP.dmul w2 d4)), (.double (FP.dsub (4607182418800017408 : UInt64) w2)), (.double w1)] _
    refine XS.ddivS X103.here hx rfl (v := (FP.ddiv (FP.dmul w2 d4) d5)) (hb hby d10_33) rfl hn33 rfl ?_
    show own_S p e below T103 m 34 #[oR r0, oD d1, oV, oD d2, oV, oD d3, oV, oD d4, oV, oD d5, oV, oU, oU] [(.double (FP.ddiv (FP.dmul w2 d4) d5)), (.double (FP.dsub (4607182418800017408 : UInt64) w2)), (.double w1)] _
    refine XS.daddS X103.here hx rfl (v := (FP.dadd (FP.dsub (4607182418800017408 : UInt64) w2) (FP.ddiv (FP.dmul w2 d4) d5))) (hb hby d10_34) rfl hn34 rfl ?_
    show own_S p e below T103 m 35 #[oR r0, oD d1, oV, oD d2, oV, oD d3, oV, oD d4, oV, oD d5, oV, oU, oU] [(.double (FP.dadd (FP.dsub (4607182418800017408 : UInt64) w2) (FP.ddiv (FP.dmul w2 d4) d5))), (.double w1)] _
    refine XS.dmulS X103.here hx rfl (v := (FP.dmul w1 (FP.dadd (FP.dsub (4607182418800017408 : UInt64) w2) (FP.ddiv (FP.dmul w2 d4) d5)))) (hb hby d10_35) rfl hn35 rfl ?_
    show own_S p e below T103 m 36 #[oR r0, oD d1, oV, oD d2, oV, oD d3, oV, oD d4, oV, oD d5, oV, oU, oU] [(.double (FP.dmul w1 (FP.dadd (FP.dsub (4607182418800017408 : UInt64) w2) (FP.ddiv (FP.dmul w2 d4) d5))))] _
    refine XS.dstore X103.here hx rfl (hb hby d10_36) rfl (l' := #[.val (.ref r0), .val (.double d1), .second, .val (.double d2), .second, .val (.double d3), .second, .val (.double d4), .second, .val (.double d5), .second, .val (.double (FP.dmul w1 (FP.dadd (FP.dsub (4607182418800017408 : UInt64) w2) (FP.ddiv (FP.dmul w2 d4) d5)))), .second]) rfl ?_
    show own_S p e below T103 m 38 #[oR r0, oD d1, oV, oD d2, oV, oD d3, oV, oD d4, oV, oD d5, oV, .val (.double (FP.dmul w1 (FP.dadd (FP.dsub (4607182418800017408 : UInt64) w2) (FP.ddiv (FP.dmul w2 d4) d5)))), oV] [] _
    refine XS.aloadN X103.here hx rfl (hb hby d10_38) rfl rfl ?_
    show own_S p e below T103 m 39 #[oR r0, oD d1, oV, oD d2, oV, oD d3, oV, oD d4, oV, oD d5, oV, .val (.double (FP.dmul w1 (FP.dadd (FP.dsub (4607182418800017408 : UInt64) w2) (FP.ddiv (FP.dmul w2 d4) d5)))), oV] [(.ref r0)] _
    refine st104 _ ?_
    show own_S p e below T104 m 42 #[oR r0, oD d1, oV, oD d2, oV, oD d3, oV, oD d4, oV, oD d5, oV, .val (.double (FP.dmul w1 (FP.dadd (FP.dsub (4607182418800017408 : UInt64) w2) (FP.ddiv (FP.dmul w2 d4) d5)))), oV] [(.double w1)] _
    refine XS.dconst1 X104.here hx rfl (v := 4607182418800017408) (hb hby d10_42) rfl ?_
    show own_S p e below T104 m 43 #[oR r0, oD d1, oV, oD d2, oV, oD d3, oV, oD d4, oV, oD d5, oV, .val (.double (FP.dmul w1 (FP.dadd (FP.dsub (4607182418800017408 : UInt64) w2) (FP.ddiv (FP.dmul w2 d4) d5)))), oV] [(.double 4607182418800017408), (.double w1)] _
    refine XS.daddS X104.here hx rfl (v := (FP.dadd w1 (4607182418800017408 : UInt64))) (hb hby d10_43) rfl hn43 rfl ?_
    show own_S p e below T104 m 44 #[oR r0, oD d1, oV, oD d2, oV, oD d3, oV, oD d4, oV, oD d5, oV, .val (.double (FP.dmul w1 (FP.dadd (FP.dsub (4607182418800017408 : UInt64) w2) (FP.ddiv (FP.dmul w2 d4) d5)))), oV] [(.double (FP.dadd w1 (4607182418800017408 : UInt64)))] _
    refine XS.dloadN X104.here hx rfl (hb hby d10_44) rfl ?_
    show own_S p e below T104 m 45 #[oR r0, oD d1, oV, oD d2, oV, oD d3, oV, oD d4, oV, oD d5, oV, .val (.double (FP.dmul w1 (FP.dadd (FP.dsub (4607182418800017408 : UInt64) w2) (FP.ddiv (FP.dmul w2 d4) d5)))), oV] [(.double d1), (.double (FP.dadd w1 (4607182418800017408 : UInt64)))] _
    refine XS.dmulS X104.here hx rfl (v := (FP.dmul (FP.dadd w1 (4607182418800017408 : UInt64)) d1)) (hb hby d10_45) rfl hn45 rfl ?_
    show own_S p e below T104 m 46 #[oR r0, oD d1, oV, oD d2, oV, oD d3, oV, oD d4, oV, oD d5, oV, .val (.double (FP.dmul w1 (FP.dadd (FP.dsub (4607182418800017408 : UInt64) w2) (FP.ddiv (FP.dmul w2 d4) d5)))), oV] [(.double (FP.dmul (FP.dadd w1 (4607182418800017408 : UInt64)) d1))] _
    refine XS.dload X104.here hx rfl (hb hby d10_46) rfl ?_
    show own_S p e below T104 m 48 #[oR r0, oD d1, oV, oD d2, oV, oD d3, oV, oD d4, oV, oD d5, oV, .val (.double (FP.dmul w1 (FP.dadd (FP.dsub (4607182418800017408 : UInt64) w2) (FP.ddiv (FP.dmul w2 d4) d5)))), oV] [(.double (FP.dmul w1 (FP.dadd (FP.dsub (4607182418800017408 : UInt64) w2) (FP.ddiv (FP.dmul w2 d4) d5)))), (.double (FP.dmul (FP.dadd w1 (4607182418800017408 : UInt64)) d1))] _
    refine XS.dloadN X104.here hx rfl (hb hby d10_48) rfl ?_
    show own_S p e below T104 m 49 #[oR r0, oD d1, oV, oD d2, oV, oD d3, oV, oD d4, oV, oD d5, oV, .val (.double (FP.dmul w1 (FP.dadd (FP.dsub (4607182418800017408 : UInt64) w2) (FP.ddiv (FP.dmul w2 d4) d5)))), oV] [(.double d1), (.double (FP.dmul w1 (FP.dadd (FP.dsub (4607182418800017408 : UInt64) w2) (FP.ddiv (FP.dmul w2 d4) d5)))), (.double (FP.dmul (FP.dadd w1 (4607182418800017408 : UInt64)) d1))] _
    refine XS.daddS X104.here hx rfl (v := (FP.dadd (FP.dmul w1 (FP.dadd (FP.dsub (4607182418800017408 : UInt64) w2) (FP.ddiv (FP.dmul w2 d4) d5))) d1)) (hb hby d10_49) rfl hn49 rfl ?_
    show own_S p e below T104 m 50 #[oR r0, oD d1, oV, oD d2, oV, oD d3, oV, oD d4, oV, oD d5, oV, .val (.double (FP.dmul w1 (FP.dadd (FP.dsub (4607182418800017408 : UInt64) w2) (FP.ddiv (FP.dmul w2 d4) d5)))), oV] [(.double (FP.dadd (FP.dmul w1 (FP.dadd (FP.dsub (4607182418800017408 : UInt64) w2) (FP.ddiv (FP.dmul w2 d4) d5))) d1)), (.double (FP.dmul (FP.dadd w1 (4607182418800017408 : UInt64)) d1))] _
    refine XS.ddivS X104.here hx rfl (v := (FP.ddiv (FP.dmul (FP.dadd w1 (4607182418800017408 : UInt64)) d1) (FP.dadd (FP.dmul w1 (FP.dadd (FP.dsub (4607182418800017408 : UInt64) w2) (FP.ddiv (FP.dmul w2 d4) d5))) d1))) (hb hby d10_50) rfl hn50 rfl ?_
    show own_S p e below T104 m 51 #[oR r0, oD d1, oV, oD d2, oV, oD d3, oV, oD d4, oV, oD d5, oV, .val (.double (FP.dmul w1 (FP.dadd (FP.dsub (4607182418800017408 : UInt64) w2) (FP.ddiv (FP.dmul w2 d4) d5)))), oV] [(.double (FP.ddiv (FP.dmul (FP.dadd w1 (4607182418800017408 : UInt64)) d1) (FP.dadd (FP.dmul w1 (FP.dadd (FP.dsub (4607182418800017408 : UInt64) w2) (FP.ddiv (FP.dmul w2 d4) d5))) d1)))] _
    refine XS.aloadN X104.here hx rfl (hb hby d10_51) rfl rfl ?_
    show own_S p e below T104 m 52 #[oR r0, oD d1, oV, oD d2, oV, oD d3, oV, oD d4, oV, oD d5, oV, .val (.double (FP.dmul w1 (FP.dadd (FP.dsub (4607182418800017408 : UInt64) w2) (FP.ddiv (FP.dmul w2 d4) d5)))), oV] [(.ref r0), (.double (FP.ddiv (FP.dmul (FP.dadd w1 (4607182418800017408 : UInt64)) d1) (FP.dadd (FP.dmul w1 (FP.dadd (FP.dsub (4607182418800017408 : UInt64) w2) (FP.ddiv (FP.dmul w2 d4) d5))) d1)))] _
    refine st105 _ ?_
    show own_S p e below T105 m 55 #[oR r0, oD d1, oV, oD d2, oV, oD d3, oV, oD d4, oV, oD d5, oV, .val (.double (FP.dmul w1 (FP.dadd (FP.dsub (4607182418800017408 : UInt64) w2) (FP.ddiv (FP.dmul w2 d4) d5)))), oV] [(.double w3), (.double (FP.ddiv (FP.dmul (FP.dadd w1 (4607182418800017408 : UInt64)) d1) (FP.dadd (FP.dmul w1 (FP.dadd (FP.dsub (4607182418800017408 : UInt64) w2) (FP.ddiv (FP.dmul w2 d4) d5))) d1)))] _
    refine XS.dconst1 X105.here hx rfl (v := 4607182418800017408) (hb hby d10_55) rfl ?_
    show own_S p e below T105 m 56 #[oR r0, oD d1, oV, oD d2, oV, oD d3, oV, oD d4, oV, oD d5, oV, .val (.double (FP.dmul w1 (FP.dadd (FP.dsub (4607182418800017408 : UInt64) w2) (FP.ddiv (FP.dmul w2 d4) d5)))), oV] [(.double 4607182418800017408), (.double w3), (.double (FP.ddiv (FP.dmul (FP.dadd w1 (4607182418800017408 : UInt64)) d1) (FP.dadd (FP.dmul w1 (FP.dadd (FP.dsub (4607182418800017408 : UInt64) w2) (FP.ddiv (FP.dmul w2 d4) d5))) d1)))] _
    refine XS.daddS X105.here hx rfl (v := (FP.dadd w3 (4607182418800017408 : UInt64))) (hb hby d10_56) rfl hn56 rfl ?_
    show own_S p e below T105 m 57 #[oR r0, oD d1, oV, oD d2, oV, oD d3, oV, oD d4, oV, oD d5, oV, .val (.double (FP.dmul w1 (FP.dadd (FP.dsub (4607182418800017408 : UInt64) w2) (FP.ddiv (FP.dmul w2 d4) d5)))), oV] [(.double (FP.dadd w3 (4607182418800017408 : UInt64))), (.double (FP.ddiv (FP.dmul (FP.dadd w1 (4607182418800017408 : UInt64)) d1) (FP.dadd (FP.dmul w1 (FP.dadd (FP.dsub (4607182418800017408 : UInt64) w2) (FP.ddiv (FP.dmul w2 d4) d5))) d1)))] _
    refine XS.dmulS X105.here hx rfl (v := (FP.dmul (FP.ddiv (FP.dmul (FP.dadd w1 (4607182418800017408 : UInt64)) d1) (FP.dadd (FP.dmul w1 (FP.dadd (FP.dsub (4607182418800017408 : UInt64) w2) (FP.ddiv (FP.dmul w2 d4) d5))) d1)) (FP.dadd w3 (4607182418800017408 : UInt64)))) (hb hby d10_57) rfl hn57 rfl ?_
    show own_S p e below T105 m 58 #[oR r0, oD d1, oV, oD d2, oV, oD d3, oV, oD d4, oV, oD d5, oV, .val (.double (FP.dmul w1 (FP.dadd (FP.dsub (4607182418800017408 : UInt64) w2) (FP.ddiv (FP.dmul w2 d4) d5)))), oV] [(.double (FP.dmul (FP.ddiv (FP.dmul (FP.dadd w1 (4607182418800017408 : UInt64)) d1) (FP.dadd (FP.dmul w1 (FP.dadd (FP.dsub (4607182418800017408 : UInt64) w2) (FP.ddiv (FP.dmul w2 d4) d5))) d1)) (FP.dadd w3 (4607182418800017408 : UInt64))))] _
    refine XS.dloadN X105.here hx rfl (hb hby d10_58) rfl ?_
    show own_S p e below T105 m 59 #[oR r0, oD d1, oV, oD d2, oV, oD d3, oV, oD d4, oV, oD d5, oV, .val (.double (FP.dmul w1 (FP.dadd (FP.dsub (4607182418800017408 : UInt64) w2) (FP.ddiv (FP.dmul w2 d4) d5)))), oV] [(.double d2), (.double (FP.dmul (FP.ddiv (FP.dmul (FP.dadd w1 (4607182418800017408 : UInt64)) d1) (FP.dadd (FP.dmul w1 (FP.dadd (FP.dsub (4607182418800017408 : UInt64) w2) (FP.ddiv (FP.dmul w2 d4) d5))) d1)) (FP.dadd w3 (4607182418800017408 : UInt64))))] _
    refine XS.dmulS X105.here hx rfl (v := (FP.dmul (FP.dmul (FP.ddiv (FP.dmul (FP.dadd w1 (4607182418800017408 : UInt64)) d1) (FP.dadd (FP.dmul w1 (FP.dadd (FP.dsub (4607182418800017408 : UInt64) w2) (FP.ddiv (FP.dmul w2 d4) d5))) d1)) (FP.dadd w3 (4607182418800017408 : UInt64))) d2)) (hb hby d10_59) rfl hn59 rfl ?_
    show own_S p e below T105 m 60 #[oR r0, oD d1, oV, oD d2, oV, oD d3, oV, oD d4, oV, oD d5, oV, .val (.double (FP.dmul w1 (FP.dadd (FP.dsub (4607182418800017408 : UInt64) w2) (FP.ddiv (FP.dmul w2 d4) d5)))), oV] [(.double (FP.dmul (FP.dmul (FP.ddiv (FP.dmul (FP.dadd w1 (4607182418800017408 : UInt64)) d1) (FP.dadd (FP.dmul w1 (FP.dadd (FP.dsub (4607182418800017408 : UInt64) w2) (FP.ddiv (FP.dmul w2 d4) d5))) d1)) (FP.dadd w3 (4607182418800017408 : UInt64))) d2))] _
    refine XS.aloadN X105.here hx rfl (hb hby d10_60) rfl rfl ?_
    show own_S p e below T105 m 61 #[oR r0, oD d1, oV, oD d2, oV, oD d3, oV, oD d4, oV, oD d5, oV, .val (.double (FP.dmul w1 (FP.dadd (FP.dsub (4607182418800017408 : UInt64) w2) (FP.ddiv (FP.dmul w2 d4) d5)))), oV] [(.ref r0), (.double (FP.dmul (FP.dmul (FP.ddiv (FP.dmul (FP.dadd w1 (4607182418800017408 : UInt64)) d1) (FP.dadd (FP.dmul w1 (FP.dadd (FP.dsub (4607182418800017408 : UInt64) w2) (FP.ddiv (FP.dmul w2 d4) d5))) d1)) (FP.dadd w3 (4607182418800017408 : UInt64))) d2))] _
    refine st106 _ ?_
    show own_S p e below T106 m 64 #[oR r0, oD d1, oV, oD d2, oV, oD d3, oV, oD d4, oV, oD d5, oV, .val (.double (FP.dmul w1 (FP.dadd (FP.dsub (4607182418800017408 : UInt64) w2) (FP.ddiv (FP.dmul w2 d4) d5)))), oV] [(.double w3), (.double (FP.dmul (FP.dmul (FP.ddiv (FP.dmul (FP.dadd w1 (4607182418800017408 : UInt64)) d1) (FP.dadd (FP.dmul w1 (FP.dadd (FP.dsub (4607182418800017408 : UInt64) w2) (FP.ddiv (FP.dmul w2 d4) d5))) d1)) (FP.dadd w3 (4607182418800017408 : UInt64))) d2))] _
    refine XS.dloadN X106.here hx rfl (hb hby d10_64) rfl ?_
    show own_S p e below T106 m 65 #[oR r0, oD d1, oV, oD d2, oV, oD d3, oV, oD d4, oV, oD d5, oV, .val (.double (FP.dmul w1 (FP.dadd (FP.dsub (4607182418800017408 : UInt64) w2) (FP.ddiv (FP.dmul w2 d4) d5)))), oV] [(.double d2), (.double w3), (.double (FP.dmul (FP.dmul (FP.ddiv (FP.dmul (FP.dadd w1 (4607182418800017408 : UInt64)) d1) (FP.dadd (FP.dmul w1 (FP.dadd (FP.dsub (4607182418800017408 : UInt64) w2) (FP.ddiv (FP.dmul w2 d4) d5))) d1)) (FP.dadd w3 (4607182418800017408 : UInt64))) d2))] _
    refine XS.daddS X106.here hx rfl (v := (FP.dadd w3 d2)) (hb hby d10_65) rfl hn65 rfl ?_
    show own_S p e below T106 m 66 #[oR r0, oD d1, oV, oD d2, oV, oD d3, oV, oD d4, oV, oD d5, oV, .val (.double (FP.dmul w1 (FP.dadd (FP.dsub (4607182418800017408 : UInt64) w2) (FP.ddiv (FP.dmul w2 d4) d5)))), oV] [(.double (FP.dadd w3 d2)), (.double (FP.dmul (FP.dmul (FP.ddiv (FP.dmul (FP.dadd w1 (4607182418800017408 : UInt64)) d1) (FP.dadd (FP.dmul w1 (FP.dadd (FP.dsub (4607182418800017408 : UInt64) w2) (FP.ddiv (FP.dmul w2 d4) d5))) d1)) (FP.dadd w3 (4607182418800017408 : UInt64))) d2))] _
    refine XS.ddivS X106.here hx rfl (v := (FP.ddiv (FP.dmul (FP.dmul (FP.ddiv (FP.dmul (FP.dadd w1 (4607182418800017408 : UInt64)) d1) (FP.dadd (FP.dmul w1 (FP.dadd (FP.dsub (4607182418800017408 : UInt64) w2) (FP.ddiv (FP.dmul w2 d4) d5))) d1)) (FP.dadd w3 (4607182418800017408 : UInt64))) d2) (FP.dadd w3 d2))) (hb hby d10_66) rfl hn66 rfl ?_
    show own_S p e below T106 m 67 #[oR r0, oD d1, oV, oD d2, oV, oD d3, oV, oD d4, oV, oD d5, oV, .val (.double (FP.dmul w1 (FP.dadd (FP.dsub (4607182418800017408 : UInt64) w2) (FP.ddiv (FP.dmul w2 d4) d5)))), oV] [(.double (FP.ddiv (FP.dmul (FP.dmul (FP.ddiv (FP.dmul (FP.dadd w1 (4607182418800017408 : UInt64)) d1) (FP.dadd (FP.dmul w1 (FP.dadd (FP.dsub (4607182418800017408 : UInt64) w2) (FP.ddiv (FP.dmul w2 d4) d5))) d1)) (FP.dadd w3 (4607182418800017408 : UInt64))) d2) (FP.dadd w3 d2)))] _
    refine XS.dload X106.here hx rfl (hb hby d10_67) rfl ?_
    show own_S p e below T106 m 69 #[oR r0, oD d1, oV, oD d2, oV, oD d3, oV, oD d4, oV, oD d5, oV, .val (.double (FP.dmul w1 (FP.dadd (FP.dsub (4607182418800017408 : UInt64) w2) (FP.ddiv (FP.dmul w2 d4) d5)))), oV] [(.double d3), (.double (FP.ddiv (FP.dmul (FP.dmul (FP.ddiv (FP.dmul (FP.dadd w1 (4607182418800017408 : UInt64)) d1) (FP.dadd (FP.dmul w1 (FP.dadd (FP.dsub (4607182418800017408 : UInt64) w2) (FP.ddiv (FP.dmul w2 d4) d5))) d1)) (FP.dadd w3 (4607182418800017408 : UInt64))) d2) (FP.dadd w3 d2)))] _
    refine XS.dmulS X106.here hx rfl (v := (FP.dmul (FP.ddiv (FP.dmul (FP.dmul (FP.ddiv (FP.dmul (FP.dadd w1 (4607182418800017408 : UInt64)) d1) (FP.dadd (FP.dmul w1 (FP.dadd (FP.dsub (4607182418800017408 : UInt64) w2) (FP.ddiv (FP.dmul w2 d4) d5))) d1)) (FP.dadd w3 (4607182418800017408 : UInt64))) d2) (FP.dadd w3 d2)) d3)) (hb hby d10_69) rfl hn69 rfl ?_
    show own_S p e below T106 m 70 #[oR r0, oD d1, oV, oD d2, oV, oD d3, oV, oD d4, oV, oD d5, oV, .val (.double (FP.dmul w1 (FP.dadd (FP.dsub (4607182418800017408 : UInt64) w2) (FP.ddiv (FP.dmul w2 d4) d5)))), oV] [(.double (FP.dmul (FP.ddiv (FP.dmul (FP.dmul (FP.ddiv (FP.dmul (FP.dadd w1 (4607182418800017408 : UInt64)) d1) (FP.dadd (FP.dmul w1 (FP.dadd (FP.dsub (4607182418800017408 : UInt64) w2) (FP.ddiv (FP.dmul w2 d4) d5))) d1)) (FP.dadd w3 (4607182418800017408 : UInt64))) d2) (FP.dadd w3 d2)) d3))] _
    exact retOut X106 hx Bd.returns rfl (Or.inr (Or.inr (Or.inl ⟨rfl, rfl, _, rfl⟩))) (hb hby d10_70) hr
  · show Qm10 Z r0 d1 d2 d3 d4 d5 w1 w2 w3 h0 n0 _ T106.heap _
    rw [e106]
    exact ⟨rfl, N0, rfl⟩
theorem d10_12 : decode prog_23_method_3_code 12 = .ok (.dconst 0, 1) := by decide +kernel
theorem d10_13 : decode prog_23_method_3_code 13 = .ok (.dreturn, 1) := by decide +kernel
theorem efz1 (m : MethodId) (r0 : Addr) (d2 : UInt64) (d3 : UInt64) (d4 : UInt64) (d5 : UInt64) : entryFrame m #[(.ref r0), (.double 0), (.double d2), (.double d3), (.double d4), (.double d5)] 13 = mkF m 0 #[.val (.ref r0), .val (.double 0), .second, .val (.double d2), .second, .val (.double d3), .second, .val (.double d4), .second, .val (.double d5), .second, .unset, .unset] [] := by first | (simp [entryFrame, mkF, argsToLocals, Value.category]; done) | rfl
def Qz1 (Z : State) (r0 : Addr) (d2 : UInt64) (d3 : UInt64) (d4 : UInt64) (d5 : UInt64) (h0 : Heap) (n0 : Nat) (v : Option Value) (h : Heap) (L : List Loc) : Prop := v = some (.double 0) ∧ Fr n0 L ∧ (h = h0)
set_option maxRecDepth 65536 in
set_option maxHeartbeats 40000000 in
theorem rmz1 (l : Launch) (Z : State) (a0 : Array Value) (hw : ∀ d ∈ tables_1, d.before a0 Z = true) (ws : List Jvm.Cond) (r0 : Addr) (d2 : UInt64) (d3 : UInt64) (d4 : UInt64) (d5 : UInt64) (h0 : Heap) (n0 : Nat) (Z0 : n0 ≤ h0.size)  :
    MetFree l (⟨"com/example/buurt/buurt/model/Bm25", "weight", "(DDDDD)D"⟩ : MethodName) (head1 (Jvm.Cond.code (⟨"com/example/buurt/buurt/model/Bm25", "weight", "(DDDDD)D"⟩ : MethodName) prog_23_method_3_code 13 (some .double) :: ws) ({ frames := 0, cells := 0, slots := 0, locals := 0 } : Room)) (fun a U => a = #[(.ref r0), (.double 0), (.double d2), (.double d3), (.double d4), (.double d5)] ∧ Z.Warmed39 U.vm ∧ U.heap = h0) (fun _ _ _ _ _ => True) (fun _ U o U' => ∃ v L, o = .returned v ∧ Qz1 Z r0 d2 d3 d4 d5 h0 n0 v U'.heap L ∧ FrameEnd U o U' L ({ frames := 0, cells := 0, slots := 0, locals := 0 } : Room).cells ({ frames := 0, cells := 0, slots := 0, locals := 0 } : Room).slots) := by
  refine MetFree.of_bodySF (plainFor_of_name pn4) hisR ?_
  intro p e s m args below meth c s₁ Bd hml0 hP hK
  obtain ⟨rfl, hZ, hh⟩ := hP
  have hx := Bd.exec
  have hby := Bd.bytes
  have hml : c.maxLocals = 13 := hml0
  have hown : s.vm.findClass "com/example/buurt/buurt/model/Bm25" = some m.cls := findClass_of_methodNamed Bd.named
  have hnm := (name_of_methodNamed Bd.named Bd.method).1
  have X0 : Stand p l e ({ frames := 0, cells := 0, slots := 0, locals := 0 } : Room) s m #[(.ref r0), (.double 0), (.double d2), (.double d3), (.double d4), (.double d5)] below meth c s₁ [] 0 0 := Stand.of_body Bd
  have e0 : s₁.heap = h0 := by rw [← hh, Bd.state]; rfl
  have N0 := Fr.nil n0
  have pre0 : ∀ t, Steps p.tables e below (s₁.setTop (mkF m 0 #[.val (.ref r0), .val (.double 0), .second, .val (.double d2), .second, .val (.double d3), .second, .val (.double d4), .second, .val (.double d5), .second, .unset, .unset] [])) t → Steps p.tables e below (s₁.setTop (entryFrame m #[(.ref r0), (.double 0), (.double d2), (.double d3), (.double d4), (.double d5)] 13)) t := fun t k => castTop (efz1 m r0 d2 d3 d4 d5) k
  obtain ⟨fs, hr, hrun, hended, hW, hsame⟩ := X0.leave (v := some (.double 0)) (fun h => by rw [Bd.returns] at h; cases h)
  refine ⟨_, _, pre0 _ ?_, hrun, hended, _, _, rfl, ?_, ⟨_, rfl⟩, hW, hsame.mono (by decide) (by decide)⟩
  · show own_S p e below s₁ m 0 #[oR r0, oD 0, oV, oD d2, oV, oD d3, oV, oD d4, oV, oD d5, oV, oU, oU] [] _
    refine XS.dloadN X0.here hx rfl (hb hby d10_0) rfl ?_
    show own_S p e below s₁ m 1 #[oR r0, oD 0, oV, oD d2, oV, oD d3, oV, oD d4, oV, oD d5, oV, oU, oU] [(.double 0)] _
    refine XS.dconst0 X0.here hx rfl (v := 0) (hb hby d10_1) rfl ?_
    show own_S p e below s₁ m 2 #[oR r0, oD 0, oV, oD d2, oV, oD d3, oV, oD d4, oV, oD d5, oV, oU, oU] [(.double 0), (.double 0)] _
    refine XS.dcmpS X0.here hx rfl (v := (0 : Int32)) (hb hby d10_2) rfl (by decide +kernel) ?_
    show own_S p e below s₁ m 3 #[oR r0, oD 0, oV, oD d2, oV, oD d3, oV, oD d4, oV, oD d5, oV, oU, oU] [(.int 0)] _
    refine XS.ifYes X0.here hx rfl (pc0 := 3) (pc' := 12) rfl (hb hby d10_3) rfl ((if0 _ _).trans (teq (by decide : (0 : Int32) = (0 : Int32))).1) (by decide) (by decide) ?_
    show own_S p e below s₁ m 12 #[oR r0, oD 0, oV, oD d2, oV, oD d3, oV, oD d4, oV, oD d5, oV, oU, oU] [] _
    refine XS.dconst0 X0.here hx rfl (v := 0) (hb hby d10_12) rfl ?_
    show own_S p e below s₁ m 13 #[oR r0, oD 0, oV, oD d2, oV, oD d3, oV, oD d4, oV, oD d5, oV, oU, oU] [(.double 0)] _
    exact retOut X0 hx Bd.returns rfl (Or.inr (Or.inr (Or.inl ⟨rfl, rfl, _, rfl⟩))) (hb hby d10_13) hr
  · show Qz1 Z r0 d2 d3 d4 d5 h0 n0 _ s₁.heap _
    rw [e0]
    exact ⟨rfl, N0, rfl⟩
theorem efz2 (m : MethodId) (r0 : Addr) (d1 : UInt64) (d3 : UInt64) (d4 : UInt64) (d5 : UInt64) : entryFrame m #[(.ref r0), (.double d1), (.double 0), (.double d3), (.double d4), (.double d5)] 13 = mkF m 0 #[.val (.ref r0), .val (.double d1), .second, .val (.double 0), .second, .val (.double d3), .second, .val (.double d4), .second, .val (.double d5), .second, .unset, .unset] [] := by first | (simp [entryFrame, mkF, argsToLocals, Value.category]; done) | rfl
def Qz2 (Z : State) (r0 : Addr) (d1 : UInt64) (d3 : UInt64) (d4 : UInt64) (d5 : UInt64) (h0 : Heap) (n0 : Nat) (v : Option Value) (h : Heap) (L : List Loc) : Prop := v = some (.double 0) ∧ Fr n0 L ∧ (h = h0)
set_option maxRecDepth 65536 in
set_option maxHeartbeats 40000000 in
theorem rmz2 (l : Launch) (Z : State) (a0 : Array Value) (hw : ∀ d ∈ tables_1, d.before a0 Z = true) (ws : List Jvm.Cond) (r0 : Addr) (d1 : UInt64) (d3 : UInt64) (d4 : UInt64) (d5 : UInt64) (h0 : Heap) (n0 : Nat) (Z0 : n0 ≤ h0.size) (hc2 : cmpValue (FP.dcmp d1 (0 : UInt64)) .l = 1) :
    MetFree l (⟨"com/example/buurt/buurt/model/Bm25", "weight", "(DDDDD)D"⟩ : MethodName) (head1 (Jvm.Cond.code (⟨"com/example/buurt/buurt/model/Bm25", "weight", "(DDDDD)D"⟩ : MethodName) prog_23_method_3_code 13 (some .double) :: ws) ({ frames := 0, cells := 0, slots := 0, locals := 0 } : Room)) (fun a U => a = #[(.ref r0), (.double d1), (.double 0), (.double d3), (.double d4), (.double d5)] ∧ Z.Warmed39 U.vm ∧ U.heap = h0) (fun _ _ _ _ _ => True) (fun _ U o U' => ∃ v L, o = .returned v ∧ Qz2 Z r0 d1 d3 d4 d5 h0 n0 v U'.heap L ∧ FrameEnd U o U' L ({ frames := 0, cells := 0, slots := 0, locals := 0 } : Room).cells ({ frames := 0, cells := 0, slots := 0, locals := 0 } : Room).slots) := by
  refine MetFree.of_bodySF (plainFor_of_name pn4) hisR ?_
  intro p e s m args below meth c s₁ Bd hml0 hP hK
  obtain ⟨rfl, hZ, hh⟩ := hP
  have hx := Bd.exec
  have hby := Bd.bytes
  have hml : c.maxLocals = 13 := hml0
  have hown : s.vm.findClass "com/example/buurt/buurt/model/Bm25" = some m.cls := findClass_of_methodNamed Bd.named
  have hnm := (name_of_methodNamed Bd.named Bd.method).1
  have X0 : Stand p l e ({ frames := 0, cells := 0, slots := 0, locals := 0 } : Room) s m #[(.ref r0), (.double d1), (.double 0), (.double d3), (.double d4), (.double d5)] below meth c s₁ [] 0 0 := Stand.of_body Bd
  have e0 : s₁.heap = h0 := by rw [← hh, Bd.state]; rfl
  have N0 := Fr.nil n0
  have pre0 : ∀ t, Steps p.tables e below (s₁.setTop (mkF m 0 #[.val (.ref r0), .val (.double d1), .second, .val (.double 0), .second, .val (.double d3), .second, .val (.double d4), .second, .val (.double d5), .second, .unset, .unset] [])) t → Steps p.tables e below (s₁.setTop (entryFrame m #[(.ref r0), (.double d1), (.double 0), (.double d3), (.double d4), (.double d5)] 13)) t := fun t k => castTop (efz2 m r0 d1 d3 d4 d5) k
  obtain ⟨fs, hr, hrun, hended, hW, hsame⟩ := X0.leave (v := some (.double 0)) (fun h => by rw [Bd.returns] at h; cases h)
  refine ⟨_, _, pre0 _ ?_, hrun, hended, _, _, rfl, ?_, ⟨_, rfl⟩, hW, hsame.mono (by decide) (by decide)⟩
  · show own_S p e below s₁ m 0 #[oR r0, oD d1, oV, oD 0, oV, oD d3, oV, oD d4, oV, oD d5, oV, oU, oU] [] _
    refine XS.dloadN X0.here hx rfl (hb hby d10_0) rfl ?_
    show own_S p e below s₁ m 1 #[oR r0, oD d1, oV, oD 0, oV, oD d3, oV, oD d4, oV, oD d5, oV, oU, oU] [(.double d1)] _
    refine XS.dconst0 X0.here hx rfl (v := 0) (hb hby d10_1) rfl ?_
    show own_S p e below s₁ m 2 #[oR r0, oD d1, oV, oD 0, oV, oD d3, oV, oD d4, oV, oD d5, oV, oU, oU] [(.double 0), (.double d1)] _
    refine XS.dcmpS X0.here hx rfl (v := (1 : Int32)) (hb hby d10_2) rfl hc2 ?_
    show own_S p e below s₁ m 3 #[oR r0, oD d1, oV, oD 0, oV, oD d3, oV, oD d4, oV, oD d5, oV, oU, oU] [(.int 1)] _
    refine XS.ifNo X0.here hx rfl (hb hby d10_3) rfl ((if0 _ _).trans (feq (by decide : ¬ ((1 : Int32) = (0 : Int32)))).1) ?_
    show own_S p e below s₁ m 6 #[oR r0, oD d1, oV, oD 0, oV, oD d3, oV, oD d4, oV, oD d5, oV, oU, oU] [] _
    refine XS.dloadN X0.here hx rfl (hb hby d10_6) rfl ?_
    show own_S p e below s₁ m 7 #[oR r0, oD d1, oV, oD 0, oV, oD d3, oV, oD d4, oV, oD d5, oV, oU, oU] [(.double 0)] _
    refine XS.dconst0 X0.here hx rfl (v := 0) (hb hby d10_7) rfl ?_
    show own_S p e below s₁ m 8 #[oR r0, oD d1, oV, oD 0, oV, oD d3, oV, oD d4, oV, oD d5, oV, oU, oU] [(.double 0), (.double 0)] _
    refine XS.dcmpS X0.here hx rfl (v := (0 : Int32)) (hb hby d10_8) rfl (by decide +kernel) ?_
    show own_S p e below s₁ m 9 #[oR r0, oD d1, oV, oD 0, oV, oD d3, oV, oD d4, oV, oD d5, oV, oU, oU] [(.int 0)] _
    refine XS.ifNo X0.here hx rfl (hb hby d10_9) rfl ((if0 _ _).trans (teq (by decide : (0 : Int32) = (0 : Int32))).2) ?_
    show own_S p e below s₁ m 12 #[oR r0, oD d1, oV, oD 0, oV, oD d3, oV, oD d4, oV, oD d5, oV, oU, oU] [] _
    refine XS.dconst0 X0.here hx rfl (v := 0) (hb hby d10_12) rfl ?_
    show own_S p e below s₁ m 13 #[oR r0, oD d1, oV, oD 0, oV, oD d3, oV, oD d4, oV, oD d5, oV, oU, oU] [(.double 0)] _
    exact retOut X0 hx Bd.returns rfl (Or.inr (Or.inr (Or.inl ⟨rfl, rfl, _, rfl⟩))) (hb hby d10_13) hr
  · show Qz2 Z r0 d1 d3 d4 d5 h0 n0 _ s₁.heap _
    rw [e0]
    exact ⟨rfl, N0, rfl⟩
theorem pd5 : parseMethodDescriptor "(DDD)V" = some ⟨[.double, .double, .double], none⟩ := by decide +kernel
theorem pd6 : parseMethodDescriptor "(DDDDD)D" = some ⟨[.double, .double, .double, .double, .double], some .double⟩ := by decide +kernel
theorem pn5 : plainName "com/example/buurt/buurt/model/Bm25WeightPinLaw" = true := by first | (simp [plainName, overriddenIn]; done) | decide +kernel
theorem efm0 (m : MethodId) (p0 : Int32) (p1 : Int32) (p2 : Int32) (p3 : Int32) (p4 : Int32) : entryFrame m #[(.int p0), (.int p1), (.int p2), (.int p3), (.int p4)] maxLocals = mkF m 0 #[.val (.int p0), .val (.int p1), .val (.int p2), .val (.int p3), .val (.int p4), .unset, .unset, .unset, .unset, .unset, .unset, .unset, .unset, .unset, .unset, .unset, .unset, .unset, .unset, .unset, .unset, .unset, .unset, .unset, .unset, .unset, .unset, .unset, .unset, .unset, .unset, .unset, .unset, .unset, .unset, .unset, .unset, .unset, .unset, .unset, .unset, .unset] [] := by first | (simp [entryFrame, mkF, argsToLocals, Value.category, maxLocals]; done) | rfl
def Qm0 (Z : State) (p0 : Int32) (p1 : Int32) (p2 : Int32) (p3 : Int32) (p4 : Int32) (h0 : Heap) (n0 : Nat) (v : Option Value) (h : Heap) (L : List Loc) : Prop := v = some (.int 1) ∧ Fr n0 L
set_option maxRecDepth 65536 in
set_option maxHeartbeats 40000000 in
theorem rmm0 (l : Launch) (Z : State) (a0 : Array Value) (hw : ∀ d ∈ tables_1, d.before a0 Z = true) (ws : List Jvm.Cond) (p0 : Int32) (p1 : Int32) (p2 : Int32) (p3 : Int32) (p4 : Int32) (h0 : Heap) (n0 : Nat) (Z0 : n0 ≤ h0.size)  :
    MetFree l x (head1 (Jvm.Cond.code x code maxLocals ret :: ws) room_1) (fun a U => a = #[(.int p0), (.int p1), (.int p2), (.int p3), (.int p4)] ∧ Z.Warmed39 U.vm ∧ U.heap = h0) (fun _ _ _ _ _ => True) (fun _ U o U' => ∃ v L, o = .returned v ∧ Qm0 Z p0 p1 p2 p3 p4 h0 n0 v U'.heap L ∧ ReturnedEndW U o U' L room_1.cells room_1.slots) := by
  refine MetFree.of_bodySF (plainFor_of_name pn5) hisR ?_
  intro p e s m args below meth c s₁ Bd hml0 hP hK
  obtain ⟨rfl, hZ, hh⟩ := hP
  have hx := Bd.exec
  have hby := Bd.bytes
  have hml : c.maxLocals = 42 := hml0
  have hown : s.vm.findClass "com/example/buurt/buurt/model/Bm25WeightPinLaw" = some m.cls := findClass_of_methodNamed Bd.named
  have hnm := (name_of_methodNamed Bd.named Bd.method).1
  have X0 : Stand p l e room_1 (s.setVm s.vm) m #[(.int p0), (.int p1), (.int p2), (.int p3), (.int p4)] below meth c s₁ [] 0 0 := Stand.of_body Bd
  have e0 : s₁.heap = h0 := by rw [← hh, Bd.state]; rfl
  have N0 := Fr.nil n0
  have pre0 : ∀ t, Steps p.tables e below (s₁.setTop (mkF m 0 #[.val (.int p0), .val (.int p1), .val (.int p2), .val (.int p3), .val (.int p4), .unset, .unset, .unset, .unset, .unset, .unset, .unset, .unset, .unset, .unset, .unset, .unset, .unset, .unset, .unset, .unset, .unset, .unset, .unset, .unset, .unset, .unset, .unset, .unset, .unset, .unset, .unset, .unset, .unset, .unset, .unset, .unset, .unset, .unset, .unset, .unset, .unset] [])) t → Steps p.tables e below (s₁.setTop (entryFrame m #[(.int p0), (.int p1), (.int p2), (.int p3), (.int p4)] maxLocals)) t := fun t k => castTop (efm0 m p0 p1 p2 p3 p4) k
  have hS0 := (State.WarmedH.refl s).since 0
  replace hZ : Z.Warmed39 (s.setVm s.vm).vm := hZ
  replace hown : (s.setVm s.vm).vm.findClass "com/example/buurt/buurt/model/Bm25WeightPinLaw" = some m.cls := hown
  obtain ⟨k1v, hk1v⟩ : ∃ z, z = (p0 &&& (7 : Int32)) := ⟨_, rfl⟩
  obtain ⟨k3v, hk3v⟩ : ∃ z, z = (((p0.toUInt32 >>> ((3 : Int32) &&& 31).toUInt32).toInt32) &&& (7 : Int32)) := ⟨_, rfl⟩
  obtain ⟨jv, hjv⟩ : ∃ z, z = (((p0.toUInt32 >>> ((6 : Int32) &&& 31).toUInt32).toInt32) % (5 : Int32)) := ⟨_, rfl⟩
  obtain ⟨dlv, hdlv⟩ : ∃ z, z = (p1 &&& (15 : Int32)) := ⟨_, rfl⟩
  obtain ⟨aev, haev⟩ : ∃ z, z = (((p1.toUInt32 >>> ((4 : Int32) &&& 31).toUInt32).toInt32) &&& (3 : Int32)) := ⟨_, rfl⟩
  obtain ⟨av, hav⟩ : ∃ z, z = ((1 : Int64) <<< (aev &&& 0x3f).toInt64) := ⟨_, rfl⟩
  obtain ⟨pv, hpv⟩ : ∃ z, z = ((p2 &&& (15 : Int32)) % (11 : Int32)) := ⟨_, rfl⟩
  obtain ⟨qe, hqe⟩ : ∃ z, z = ((((p2.toUInt32 >>> ((4 : Int32) &&& 31).toUInt32).toInt32) &&& (7 : Int32)) % (7 : Int32)) := ⟨_, rfl⟩
  obtain ⟨iv, hiv⟩ : ∃ z, z = (p3 % (1024 : Int32)) := ⟨_, rfl⟩
  obtain ⟨mo, hmo⟩ : ∃ z, z = (p4 &&& (3 : Int32)) := ⟨_, rfl⟩
  obtain ⟨lv, hlv⟩ : ∃ z, z = ((k1v.toInt64) * (((32 : Int64) - ((8 : Int64) * (jv.toInt64))) + (((jv.toInt64) * (dlv.toInt64)) * (((8 : Int32) >>> (aev &&& 31)).toInt64)))) := ⟨_, rfl⟩
  obtain ⟨tv, htv⟩ : ∃ z, z = ((32 : Int64) <<< (pv &&& 0x3f).toInt64) := ⟨_, rfl⟩
  obtain ⟨tw, htw⟩ : ∃ z, z = ((32 : Int64) <<< ((pv + (7 : Int32)) &&& 0x3f).toInt64) := ⟨_, rfl⟩
  obtain ⟨qv, hqv⟩ : ∃ z, z = ((1 : Int64) <<< (qe &&& 0x3f).toInt64) := ⟨_, rfl⟩
  obtain ⟨qw, hqw⟩ : ∃ z, z = ((1 : Int64) <<< ((qe + (3 : Int32)) &&& 0x3f).toInt64) := ⟨_, rfl⟩
  have b1 := own_maskI (x := p0) (m := 7) (k := 3) (by decide) (by decide)
  have b2 := own_maskI (x := ((p0.toUInt32 >>> ((3 : Int32) &&& 31).toUInt32).toInt32)) (m := 7) (k := 3) (by decide) (by decide)
  have b3 := own_maskI (x := p1) (m := 15) (k := 4) (by decide) (by decide)
  have b4 := own_maskI (x := ((p1.toUInt32 >>> ((4 : Int32) &&& 31).toUInt32).toInt32)) (m := 3) (k := 2) (by decide) (by decide)
  have b5 := own_maskI (x := p2) (m := 15) (k := 4) (by decide) (by decide)
  have b6 := own_maskI (x := ((p2.toUInt32 >>> ((4 : Int32) &&& 31).toUInt32).toInt32)) (m := 7) (k := 3) (by decide) (by decide)
  have b7 := c_iushr p0 6 6 (by decide) (by decide)
  have b8 := Int.emod_nonneg p0.toInt (show (4294967296 : Int) ≠ 0 by decide)
  have r1 := own_irem (x := ((p0.toUInt32 >>> ((6 : Int32) &&& 31).toUInt32).toInt32)) (m := 5) hjv (M := 5) (by decide) (by decide)
  have r2 := own_irem (x := p2 &&& (15 : Int32)) (m := 11) hpv (M := 11) (by decide) (by decide)
  have r3 := own_irem (x := ((p2.toUInt32 >>> ((4 : Int32) &&& 31).toUInt32).toInt32) &&& (7 : Int32)) (m := 7) hqe (M := 7) (by decide) (by decide)
  have r4 := own_irem (x := p3) (m := 1024) hiv (M := 1024) (by decide) (by decide)
  rw [← hk1v] at b1
  rw [← hk3v] at b2
  rw [← hdlv] at b3
  rw [← haev] at b4
  have j0 : 0 ≤ jv.toInt := r1.2.2 (by rw [b7]; omega)
  have t0 := r2.2.2 b5.1
  have q0 := r3.2.2 b6.1
  obtain ⟨AE, hae, hav1, h8v, h88⟩ := own_av (ae := aev) b4.1 (by omega)
  rw [← hav] at hav1
  obtain ⟨hl1, hl2, hl3⟩ := own_lv (k := k1v) (j := jv) (dl := dlv) (ae := aev) b1.1 (by omega) j0 (by omega) b3.1 (by omega) hae h8v h88
  rw [← hlv] at hl1
  rw [← hl1] at hl2 hl3
  have hk10 : ¬ ((cmpValue (FP.dcmp (FP.i2d k1v) (0 : UInt64)) .l) < (0 : Int32)) := by rw [own_icmp (FP.Core.i2d_int k1v) own_D0, if_neg (by omega)]; split <;> decide
  have hk30 : ¬ ((cmpValue (FP.dcmp (FP.i2d k3v) (0 : UInt64)) .l) < (0 : Int32)) := by rw [own_icmp (FP.Core.i2d_int k3v) own_D0, if_neg (by omega)]; split <;> decide
  have hk1m := own_km (k := k1v) b1.1 b1.2
  have hk3m := own_km (k := k3v) b2.1 b2.2
  obtain ⟨hb0, hb1⟩ := own_jb (k := jv) j0 r1.2.1
  obtain ⟨tx, htx⟩ : ∃ z, z = if (0 : Int32) < (lcmpW tv lv) then tv else tw := ⟨_, rfl⟩
  obtain ⟨px, hpx⟩ : ∃ z, z = if (0 : Int32) < (lcmpW tv lv) then pv else (pv + (7 : Int32)) := ⟨_, rfl⟩
  obtain ⟨qx, hqx⟩ : ∃ z, z = if (0 : Int32) < (lcmpW qv (k3v.toInt64)) then qv else qw := ⟨_, rfl⟩
  obtain ⟨ex, hex⟩ : ∃ z, z = if (0 : Int32) < (lcmpW qv (k3v.toInt64)) then qe else (qe + (3 : Int32)) := ⟨_, rfl⟩
  obtain ⟨P, hP1, hP2, hP3, hTT⟩ : ∃ P : Nat, 5 ≤ P ∧ P ≤ 18 ∧ tx.toInt = 2 ^ P ∧ lv.toInt < tx.toInt := own_tx t0 r2.2.1 hl3 htv htw htx
  obtain ⟨Qe, hQ1, hQ3, hQQ⟩ : ∃ P : Nat, P ≤ 6 ∧ qx.toInt = 2 ^ P ∧ k3v.toInt < qx.toInt := own_qx q0 r3.2.1 (by omega) hqv hqw hqx
  obtain ⟨fv, hfv⟩ : ∃ z, z = (tx - lv) := ⟨_, rfl⟩
  obtain ⟨gv, hgv⟩ : ∃ z, z = (qx - (k3v.toInt64)) := ⟨_, rfl⟩
  obtain ⟨nv, hnv⟩ : ∃ z, z = (((((k1v + (1 : Int32)).toInt64) * fv) * ((k3v + (1 : Int32)).toInt64)) * gv) * (iv.toInt64) := ⟨_, rfl⟩
  obtain ⟨dn, hdn⟩ : ∃ z, z = (tx * qx) := ⟨_, rfl⟩
  obtain ⟨⟨y23, y30, y33, y34, y35, y43, y45, y49, y50, y56, y57, y59, y65, y66, y69⟩, yf, yb, yn, cf, cg, cw⟩ := own_bm (k1v := k1v) (k3v := k3v) (jv := jv) (dlv := dlv) (iv := iv) b1.1 (by omega) j0 (by omega) b2.1 (by omega) b3.1 (by omega) (by omega) hae hav1 hl1 hl2 hP1 hP2 hQ1 hP3 hQ3 hTT hQQ hfv hgv hnv hdn
  have pre101 : ∀ t, Steps p.tables e below (s₁.setTop (mkF m 119 #[.val (.int p0), .val (.int p1), .val (.int p2), .val (.int p3), .val (.int p4), .val (.int k1v), .val (.int k3v), .val (.int jv), .val (.int dlv), .val (.int aev), .val (.long av), .second, .val (.int pv), .val (.int qe), .val (.int iv), .val (.int mo), .val (.long lv), .second, .val (.long tv), .second, .unset, .unset, .unset, .unset, .unset, .unset, .unset, .unset, .unset, .unset, .unset, .unset, .unset, .unset, .unset, .unset, .unset, .unset, .unset, .unset, .unset, .unset] [(.int (lcmpW tv lv))])) t → Steps p.tables e below (s₁.setTop (mkF m 0 #[.val (.int p0), .val (.int p1), .val (.int p2), .val (.int p3), .val (.int p4), .unset, .unset, .unset, .unset, .unset, .unset, .unset, .unset, .unset, .unset, .unset, .unset, .unset, .unset, .unset, .unset, .unset, .unset, .unset, .unset, .unset, .unset, .unset, .unset, .unset, .unset, .unset, .unset, .unset, .unset, .unset, .unset, .unset, .unset, .unset, .unset, .unset] [])) t := by
    intro t kt
    show own_S p e below s₁ m 0 #[oI p0, oI p1, oI p2, oI p3, oI p4, oU, oU, oU, oU, oU, oU, oU, oU, oU, oU, oU, oU, oU, oU, oU, oU, oU, oU, oU, oU, oU, oU, oU, oU, oU, oU, oU, oU, oU, oU, oU, oU, oU, oU, oU, oU, oU] [] _
    refine XS.iloadN X0.here hx rfl (hb hby at_0) rfl ?_
    show own_S p e below s₁ m 1 #[oI p0, oI p1, oI p2, oI p3, oI p4, oU, oU, oU, oU, oU, oU, oU, oU, oU, oU, oU, oU, oU, oU, oU, oU, oU, oU, oU, oU, oU, oU, oU, oU, oU, oU, oU, oU, oU, oU, oU, oU, oU, oU, oU, oU, oU] [(.int p0)] _
    refine XS.bipush X0.here hx rfl (hb hby at_1) ?_
    show own_S p e below s₁ m 3 #[oI p0, oI p1, oI p2, oI p3, oI p4, oU, oU, oU, oU, oU, oU, oU, oU, oU, oU, oU, oU, oU, oU, oU, oU, oU, oU, oU, oU, oU, oU, oU, oU, oU, oU, oU, oU, oU, oU, oU, oU, oU, oU, oU, oU, oU] [(.int 7), (.int p0)] _
    refine XS.iand X0.here hx rfl (hb hby at_3) rfl ?_
    show own_S p e below s₁ m 4 #[oI p0, oI p1, oI p2, oI p3, oI p4, oU, oU, oU, oU, oU, oU, oU, oU, oU, oU, oU, oU, oU, oU, oU, oU, oU, oU, oU, oU, oU, oU, oU, oU, oU, oU, oU, oU, oU, oU, oU, oU, oU, oU, oU, oU, oU] [(.int (p0 &&& (7 : Int32)))] _
    refine reI (hk1v.symm : (p0 &&& (7 : Int32)) = k1v) ?_
    show own_S p e below s₁ m 4 #[oI p0, oI p1, oI p2, oI p3, oI p4, oU, oU, oU, oU, oU, oU, oU, oU, oU, oU, oU, oU, oU, oU, oU, oU, oU, oU, oU, oU, oU, oU, oU, oU, oU, oU, oU, oU, oU, oU, oU, oU, oU, oU, oU, oU, oU] [(.int k1v)] _
    refine XS.istore X0.here hx rfl (hb hby at_4) rfl (l' := #[.val (.int p0), .val (.int p1), .val (.int p2), .val (.int p3), .val (.int p4), .val (.int k1v), .unset, .unset, .unset, .unset, .unset, .unset, .unset, .unset, .unset, .unset, .unset, .unset, .unset, .unset, .unset, .unset, .unset, .unset, .unset, .unset, .unset, .unset, .unset, .unset, .unset, .unset, .unset, .unset, .unset, .unset, .unset, .unset, .unset, .unset, .unset, .unset]) rfl ?_
    show own_S p e below s₁ m 6 #[oI p0, oI p1, oI p2, oI p3, oI p4, oI k1v, oU, oU, oU, oU, oU, oU, oU, oU, oU, oU, oU, oU, oU, oU, oU, oU, oU, oU, oU, oU, oU, oU, oU, oU, oU, oU, oU, oU, oU, oU, oU, oU, oU, oU, oU, oU] [] _
    refine XS.iloadN X0.here hx rfl (hb hby at_6) rfl ?_
    show own_S p e below s₁ m 7 #[oI p0, oI p1, oI p2, oI p3, oI p4, oI k1v, oU, oU, oU, oU, oU, oU, oU, oU, oU, oU, oU, oU, oU, oU, oU, oU, oU, oU, oU, oU, oU, oU, oU, oU, oU, oU, oU, oU, oU, oU, oU, oU, oU, oU, oU, oU] [(.int p0)] _
    refine XS.iconst X0.here hx rfl (hb hby at_7) ?_
    show own_S p e below s₁ m 8 #[oI p0, oI p1, oI p2, oI p3, oI p4, oI k1v, oU, oU, oU, oU, oU, oU, oU, oU, oU, oU, oU, oU, oU, oU, oU, oU, oU, oU, oU, oU, oU, oU, oU, oU, oU, oU, oU, oU, oU, oU, oU, oU, oU, oU, oU, oU] [(.int 3), (.int p0)] _
    refine XS.iushr X0.here hx rfl (hb hby at_8) rfl ?_
    show own_S p e below s₁ m 9 #[oI p0, oI p1, oI p2, oI p3, oI p4, oI k1v, oU, oU, oU, oU, oU, oU, oU, oU, oU, oU, oU, oU, oU, oU, oU, oU, oU, oU, oU, oU, oU, oU, oU, oU, oU, oU, oU, oU, oU, oU, oU, oU, oU, oU, oU, oU] [(.int ((p0.toUInt32 >>> ((3 : Int32) &&& 31).toUInt32).toInt32))] _
    refine XS.bipush X0.here hx rfl (hb hby at_9) ?_
    show own_S p e below s₁ m 11 #[oI p0, oI p1, oI p2, oI p3, oI p4, oI k1v, oU, oU, oU, oU, oU, oU, oU, oU, oU, oU, oU, oU, oU, oU, oU, oU, oU, oU, oU, oU, oU, oU, oU, oU, oU, oU, oU, oU, oU, oU, oU, oU, oU, oU, oU, oU] [(.int 7), (.int ((p0.toUInt32 >>> ((3 : Int32) &&& 31).toUInt32).toInt32))] _
    refine XS.iand X0.here hx rfl (hb hby at_11) rfl ?_
    show own_S p e below s₁ m 12 #[oI p0, oI p1, oI p2, oI p3, oI p4, oI k1v, oU, oU, oU, oU, oU, oU, oU, oU, oU, oU, oU, oU, oU, oU, oU, oU, oU, oU, oU, oU, oU, oU, oU, oU, oU, oU, oU, oU, oU, oU, oU, oU, oU, oU, oU, oU] [(.int (((p0.toUInt32 >>> ((3 : Int32) &&& 31).toUInt32).toInt32) &&& (7 : Int32)))] _
    refine reI (hk3v.symm : (((p0.toUInt32 >>> ((3 : Int32) &&& 31).toUInt32).toInt32) &&& (7 : Int32)) = k3v) ?_
    show own_S p e below s₁ m 12 #[oI p0, oI p1, oI p2, oI p3, oI p4, oI k1v, oU, oU, oU, oU, oU, oU, oU, oU, oU, oU, oU, oU, oU, oU, oU, oU, oU, oU, oU, oU, oU, oU, oU, oU, oU, oU, oU, oU, oU, oU, oU, oU, oU, oU, oU, oU] [(.int k3v)] _
    refine XS.istore X0.here hx rfl (hb hby at_12) rfl (l' := #[.val (.int p0), .val (.int p1), .val (.int p2), .val (.int p3), .val (.int p4), .val (.int k1v), .val (.int k3v), .unset, .unset, .unset, .unset, .unset, .unset, .unset, .unset, .unset, .unset, .unset, .unset, .unset, .unset, .unset, .unset, .unset, .unset, .unset, .unset, .unset, .unset, .unset, .unset, .unset, .unset, .unset, .unset, .unset, .unset, .unset, .unset, .unset, .unset, .unset]) rfl ?_
    show own_S p e below s₁ m 14 #[oI p0, oI p1, oI p2, oI p3, oI p4, oI k1v, oI k3v, oU, oU, oU, oU, oU, oU, oU, oU, oU, oU, oU, oU, oU, oU, oU, oU, oU, oU, oU, oU, oU, oU, oU, oU, oU, oU, oU, oU, oU, oU, oU, oU, oU, oU, oU] [] _
    refine XS.iloadN X0.here hx rfl (hb hby at_14) rfl ?_
    show own_S p e below s₁ m 15 #[oI p0, oI p1, oI p2, oI p3, oI p4, oI k1v, oI k3v, oU, oU, oU, oU, oU, oU, oU, oU, oU, oU, oU, oU, oU, oU, oU, oU, oU, oU, oU, oU, oU, oU, oU, oU, oU, oU, oU, oU, oU, oU, oU, oU, oU, oU, oU] [(.int p0)] _
    refine XS.bipush X0.here hx rfl (hb hby at_15) ?_
    show own_S p e below s₁ m 17 #[oI p0, oI p1, oI p2, oI p3, oI p4, oI k1v, oI k3v, oU, oU, oU, oU, oU, oU, oU, oU, oU, oU, oU, oU, oU, oU, oU, oU, oU, oU, oU, oU, oU, oU, oU, oU, oU, oU, oU, oU, oU, oU, oU, oU, oU, oU, oU] [(.int 6), (.int p0)] _
    refine XS.iushr X0.here hx rfl (hb hby at_17) rfl ?_
    show own_S p e below s₁ m 18 #[oI p0, oI p1, oI p2, oI p3, oI p4, oI k1v, oI k3v, oU, oU, oU, oU, oU, oU, oU, oU, oU, oU, oU, oU, oU, oU, oU, oU, oU, oU, oU, oU, oU, oU, oU, oU, oU, oU, oU, oU, oU, oU, oU, oU, oU, oU, oU] [(.int ((p0.toUInt32 >>> ((6 : Int32) &&& 31).toUInt32).toInt32))] _
    refine XS.iconst X0.here hx rfl (hb hby at_18) ?_
    show own_S p e below s₁ m 19 #[oI p0, oI p1, oI p2, oI p3, oI p4, oI k1v, oI k3v, oU, oU, oU, oU, oU, oU, oU, oU, oU, oU, oU, oU, oU, oU, oU, oU, oU, oU, oU, oU, oU, oU, oU, oU, oU, oU, oU, oU, oU, oU, oU, oU, oU, oU, oU] [(.int 5), (.int ((p0.toUInt32 >>> ((6 : Int32) &&& 31).toUInt32).toInt32))] _
    refine iremM (g := (mkF m 19 #[.val (.int p0), .val (.int p1), .val (.int p2), .val (.int p3), .val (.int p4), .val (.int k1v), .val (.int k3v), .unset, .unset, .unset, .unset, .unset, .unset, .unset, .unset, .unset, .unset, .unset, .unset, .unset, .unset, .unset, .unset, .unset, .unset, .unset, .unset, .unset, .unset, .unset, .unset, .unset, .unset, .unset, .unset, .unset, .unset, .unset, .unset, .unset, .unset, .unset] [(.int 5), (.int ((p0.toUInt32 >>> ((6 : Int32) &&& 31).toUInt32).toInt32))])) X0 hx rfl (hb hby at_19) rfl (by decide) ?_
    show own_S p e below s₁ m 20 #[oI p0, oI p1, oI p2, oI p3, oI p4, oI k1v, oI k3v, oU, oU, oU, oU, oU, oU, oU, oU, oU, oU, oU, oU, oU, oU, oU, oU, oU, oU, oU, oU, oU, oU, oU, oU, oU, oU, oU, oU, oU, oU, oU, oU, oU, oU, oU] [(.int (((p0.toUInt32 >>> ((6 : Int32) &&& 31).toUInt32).toInt32) % (5 : Int32)))] _
    refine reI (hjv.symm : (((p0.toUInt32 >>> ((6 : Int32) &&& 31).toUInt32).toInt32) % (5 : Int32)) = jv) ?_
    show own_S p e below s₁ m 20 #[oI p0, oI p1, oI p2, oI p3, oI p4, oI k1v, oI k3v, oU, oU, oU, oU, oU, oU, oU, oU, oU, oU, oU, oU, oU, oU, oU, oU, oU, oU, oU, oU, oU, oU, oU, oU, oU, oU, oU, oU, oU, oU, oU, oU, oU, oU, oU] [(.int jv)] _
    refine XS.istore X0.here hx rfl (hb hby at_20) rfl (l' := #[.val (.int p0), .val (.int p1), .val (.int p2), .val (.int p3), .val (.int p4), .val (.int k1v), .val (.int k3v), .val (.int jv), .unset, .unset, .unset, .unset, .unset, .unset, .unset, .unset, .unset, .unset, .unset, .unset, .unset, .unset, .unset, .unset, .unset, .unset, .unset, .unset, .unset, .unset, .unset, .unset, .unset, .unset, .unset, .unset, .unset, .unset, .unset, .unset, .unset, .unset]) rfl ?_
    show own_S p e below s₁ m 22 #[oI p0, oI p1, oI p2, oI p3, oI p4, oI k1v, oI k3v, oI jv, oU, oU, oU, oU, oU, oU, oU, oU, oU, oU, oU, oU, oU, oU, oU, oU, oU, oU, oU, oU, oU, oU, oU, oU, oU, oU, oU, oU, oU, oU, oU, oU, oU, oU] [] _
    refine XS.iloadN X0.here hx rfl (hb hby at_22) rfl ?_
    show own_S p e below s₁ m 23 #[oI p0, oI p1, oI p2, oI p3, oI p4, oI k1v, oI k3v, oI jv, oU, oU, oU, oU, oU, oU, oU, oU, oU, oU, oU, oU, oU, oU, oU, oU, oU, oU, oU, oU, oU, oU, oU, oU, oU, oU, oU, oU, oU, oU, oU, oU, oU, oU] [(.int p1)] _
    refine XS.bipush X0.here hx rfl (hb hby at_23) ?_
    show own_S p e below s₁ m 25 #[oI p0, oI p1, oI p2, oI p3, oI p4, oI k1v, oI k3v, oI jv, oU, oU, oU, oU, oU, oU, oU, oU, oU, oU, oU, oU, oU, oU, oU, oU, oU, oU, oU, oU, oU, oU, oU, oU, oU, oU, oU, oU, oU, oU, oU, oU, oU, oU] [(.int 15), (.int p1)] _
    refine XS.iand X0.here hx rfl (hb hby at_25) rfl ?_
    show own_S p e below s₁ m 26 #[oI p0, oI p1, oI p2, oI p3, oI p4, oI k1v, oI k3v, oI jv, oU, oU, oU, oU, oU, oU, oU, oU, oU, oU, oU, oU, oU, oU, oU, oU, oU, oU, oU, oU, oU, oU, oU, oU, oU, oU, oU, oU, oU, oU, oU, oU, oU, oU] [(.int (p1 &&& (15 : Int32)))] _
    refine reI (hdlv.symm : (p1 &&& (15 : Int32)) = dlv) ?_
    show own_S p e below s₁ m 26 #[oI p0, oI p1, oI p2, oI p3, oI p4, oI k1v, oI k3v, oI jv, oU, oU, oU, oU, oU, oU, oU, oU, oU, oU, oU, oU, oU, oU, oU, oU, oU, oU, oU, oU, oU, oU, oU, oU, oU, oU, oU, oU, oU, oU, oU, oU, oU, oU] [(.int dlv)] _
    refine XS.istore X0.here hx rfl (hb hby at_26) rfl (l' := #[.val (.int p0), .val (.int p1), .val (.int p2), .val (.int p3), .val (.int p4), .val (.int k1v), .val (.int k3v), .val (.int jv), .val (.int dlv), .unset, .unset, .unset, .unset, .unset, .unset, .unset, .unset, .unset, .unset, .unset, .unset, .unset, .unset, .unset, .unset, .unset, .unset, .unset, .unset, .unset, .unset, .unset, .unset, .unset, .unset, .unset, .unset, .unset, .unset, .unset, .unset, .unset]) rfl ?_
    show own_S p e below s₁ m 28 #[oI p0, oI p1, oI p2, oI p3, oI p4, oI k1v, oI k3v, oI jv, oI dlv, oU, oU, oU, oU, oU, oU, oU, oU, oU, oU, oU, oU, oU, oU, oU, oU, oU, oU, oU, oU, oU, oU, oU, oU, oU, oU, oU, oU, oU, oU, oU, oU, oU] [] _
    refine XS.iloadN X0.here hx rfl (hb hby at_28) rfl ?_
    show own_S p e below s₁ m 29 #[oI p0, oI p1, oI p2, oI p3, oI p4, oI k1v, oI k3v, oI jv, oI dlv, oU, oU, oU, oU, oU, oU, oU, oU, oU, oU, oU, oU, oU, oU, oU, oU, oU, oU, oU, oU, oU, oU, oU, oU, oU, oU, oU, oU, oU, oU, oU, oU, oU] [(.int p1)] _
    refine XS.iconst X0.here hx rfl (hb hby at_29) ?_
    show own_S p e below s₁ m 30 #[oI p0, oI p1, oI p2, oI p3, oI p4, oI k1v, oI k3v, oI jv, oI dlv, oU, oU, oU, oU, oU, oU, oU, oU, oU, oU, oU, oU, oU, oU, oU, oU, oU, oU, oU, oU, oU, oU, oU, oU, oU, oU, oU, oU, oU, oU, oU, oU, oU] [(.int 4), (.int p1)] _
    refine XS.iushr X0.here hx rfl (hb hby at_30) rfl ?_
    show own_S p e below s₁ m 31 #[oI p0, oI p1, oI p2, oI p3, oI p4, oI k1v, oI k3v, oI jv, oI dlv, oU, oU, oU, oU, oU, oU, oU, oU, oU, oU, oU, oU, oU, oU, oU, oU, oU, oU, oU, oU, oU, oU, oU, oU, oU, oU, oU, oU, oU, oU, oU, oU, oU] [(.int ((p1.toUInt32 >>> ((4 : Int32) &&& 31).toUInt32).toInt32))] _
    refine XS.iconst X0.here hx rfl (hb hby at_31) ?_
    show own_S p e below s₁ m 32 #[oI p0, oI p1, oI p2, oI p3, oI p4, oI k1v, oI k3v, oI jv, oI dlv, oU, oU, oU, oU, oU, oU, oU, oU, oU, oU, oU, oU, oU, oU, oU, oU, oU, oU, oU, oU, oU, oU, oU, oU, oU, oU, oU, oU, oU, oU, oU, oU, oU] [(.int 3), (.int ((p1.toUInt32 >>> ((4 : Int32) &&& 31).toUInt32).toInt32))] _
    refine XS.iand X0.here hx rfl (hb hby at_32) rfl ?_
    show own_S p e below s₁ m 33 #[oI p0, oI p1, oI p2, oI p3, oI p4, oI k1v, oI k3v, oI jv, oI dlv, oU, oU, oU, oU, oU, oU, oU, oU, oU, oU, oU, oU, oU, oU, oU, oU, oU, oU, oU, oU, oU, oU, oU, oU, oU, oU, oU, oU, oU, oU, oU, oU, oU] [(.int (((p1.toUInt32 >>> ((4 : Int32) &&& 31).toUInt32).toInt32) &&& (3 : Int32)))] _
    refine reI (haev.symm : (((p1.toUInt32 >>> ((4 : Int32) &&& 31).toUInt32).toInt32) &&& (3 : Int32)) = aev) ?_
    show own_S p e below s₁ m 33 #[oI p0, oI p1, oI p2, oI p3, oI p4, oI k1v, oI k3v, oI jv, oI dlv, oU, oU, oU, oU, oU, oU, oU, oU, oU, oU, oU, oU, oU, oU, oU, oU, oU, oU, oU, oU, oU, oU, oU, oU, oU, oU, oU, oU, oU, oU, oU, oU, oU] [(.int aev)] _
    refine XS.istore X0.here hx rfl (hb hby at_33) rfl (l' := #[.val (.int p0), .val (.int p1), .val (.int p2), .val (.int p3), .val (.int p4), .val (.int k1v), .val (.int k3v), .val (.int jv), .val (.int dlv), .val (.int aev), .unset, .unset, .unset, .unset, .unset, .unset, .unset, .unset, .unset, .unset, .unset, .unset, .unset, .unset, .unset, .unset, .unset, .unset, .unset, .unset, .unset, .unset, .unset, .unset, .unset, .unset, .unset, .unset, .unset, .unset, .unset, .unset]) rfl ?_
    show own_S p e below s₁ m 35 #[oI p0, oI p1, oI p2, oI p3, oI p4, oI k1v, oI k3v, oI jv, oI dlv, oI aev, oU, oU, oU, oU, oU, oU, oU, oU, oU, oU, oU, oU, oU, oU, oU, oU, oU, oU, oU, oU, oU, oU, oU, oU, oU, oU, oU, oU, oU, oU, oU, oU] [] _
    refine XS.lconst X0.here hx rfl (hb hby at_35) ?_
    show own_S p e below s₁ m 36 #[oI p0, oI p1, oI p2, oI p3, oI p4, oI k1v, oI k3v, oI jv, oI dlv, oI aev, oU, oU, oU, oU, oU, oU, oU, oU, oU, oU, oU, oU, oU, oU, oU, oU, oU, oU, oU, oU, oU, oU, oU, oU, oU, oU, oU, oU, oU, oU, oU, oU] [(.long (1 : Int64))] _
    refine XS.iload X0.here hx rfl (hb hby at_36) rfl ?_
    show own_S p e below s₁ m 38 #[oI p0, oI p1, oI p2, oI p3, oI p4, oI k1v, oI k3v, oI jv, oI dlv, oI aev, oU, oU, oU, oU, oU, oU, oU, oU, oU, oU, oU, oU, oU, oU, oU, oU, oU, oU, oU, oU, oU, oU, oU, oU, oU, oU, oU, oU, oU, oU, oU, oU] [(.int aev), (.long (1 : Int64))] _
    refine XS.lshl X0.here hx rfl (hb hby at_38) rfl ?_
    show own_S p e below s₁ m 39 #[oI p0, oI p1, oI p2, oI p3, oI p4, oI k1v, oI k3v, oI jv, oI dlv, oI aev, oU, oU, oU, oU, oU, oU, oU, oU, oU, oU, oU, oU, oU, oU, oU, oU, oU, oU, oU, oU, oU, oU, oU, oU, oU, oU, oU, oU, oU, oU, oU, oU] [(.long ((1 : Int64) <<< (aev &&& 0x3f).toInt64))] _
    refine reJ (hav.symm : ((1 : Int64) <<< (aev &&& 0x3f).toInt64) = av) ?_
    show own_S p e below s₁ m 39 #[oI p0, oI p1, oI p2, oI p3, oI p4, oI k1v, oI k3v, oI jv, oI dlv, oI aev, oU, oU, oU, oU, oU, oU, oU, oU, oU, oU, oU, oU, oU, oU, oU, oU, oU, oU, oU, oU, oU, oU, oU, oU, oU, oU, oU, oU, oU, oU, oU, oU] [(.long av)] _
    refine XS.lstore X0.here hx rfl (hb hby at_39) rfl (l' := #[.val (.int p0), .val (.int p1), .val (.int p2), .val (.int p3), .val (.int p4), .val (.int k1v), .val (.int k3v), .val (.int jv), .val (.int dlv), .val (.int aev), .val (.long av), .second, .unset, .unset, .unset, .unset, .unset, .unset, .unset, .unset, .unset, .unset, .unset, .unset, .unset, .unset, .unset, .unset, .unset, .unset, .unset, .unset, .unset, .unset, .unset, .unset, .unset, .unset, .unset, .unset, .unset, .unset]) rfl ?_
    show own_S p e below s₁ m 41 #[oI p0, oI p1, oI p2, oI p3, oI p4, oI k1v, oI k3v, oI jv, oI dlv, oI aev, oJ av, oV, oU, oU, oU, oU, oU, oU, oU, oU, oU, oU, oU, oU, oU, oU, oU, oU, oU, oU, oU, oU, oU, oU, oU, oU, oU, oU, oU, oU, oU, oU] [] _
    refine XS.iloadN X0.here hx rfl (hb hby at_41) rfl ?_
    show own_S p e below s₁ m 42 #[oI p0, oI p1, oI p2, oI p3, oI p4, oI k1v, oI k3v, oI jv, oI dlv, oI aev, oJ av, oV, oU, oU, oU, oU, oU, oU, oU, oU, oU, oU, oU, oU, oU, oU, oU, oU, oU, oU, oU, oU, oU, oU, oU, oU, oU, oU, oU, oU, oU, oU] [(.int p2)] _
    refine XS.bipush X0.here hx rfl (hb hby at_42) ?_
    show own_S p e below s₁ m 44 #[oI p0, oI p1, oI p2, oI p3, oI p4, oI k1v, oI k3v, oI jv, oI dlv, oI aev, oJ av, oV, oU, oU, oU, oU, oU, oU, oU, oU, oU, oU, oU, oU, oU, oU, oU, oU, oU, oU, oU, oU, oU, oU, oU, oU, oU, oU, oU, oU, oU, oU] [(.int 15), (.int p2)] _
    refine XS.iand X0.here hx rfl (hb hby at_44) rfl ?_
    show own_S p e below s₁ m 45 #[oI p0, oI p1, oI p2, oI p3, oI p4, oI k1v, oI k3v, oI jv, oI dlv, oI aev, oJ av, oV, oU, oU, oU, oU, oU, oU, oU, oU, oU, oU, oU, oU, oU, oU, oU, oU, oU, oU, oU, oU, oU, oU, oU, oU, oU, oU, oU, oU, oU, oU] [(.int (p2 &&& (15 : Int32)))] _
    refine XS.bipush X0.here hx rfl (hb hby at_45) ?_
    show own_S p e below s₁ m 47 #[oI p0, oI p1, oI p2, oI p3, oI p4, oI k1v, oI k3v, oI jv, oI dlv, oI aev, oJ av, oV, oU, oU, oU, oU, oU, oU, oU, oU, oU, oU, oU, oU, oU, oU, oU, oU, oU, oU, oU, oU, oU, oU, oU, oU, oU, oU, oU, oU, oU, oU] [(.int 11), (.int (p2 &&& (15 : Int32)))] _
    refine iremM (g := (mkF m 47 #[.val (.int p0), .val (.int p1), .val (.int p2), .val (.int p3), .val (.int p4), .val (.int k1v), .val (.int k3v), .val (.int jv), .val (.int dlv), .val (.int aev), .val (.long av), .second, .unset, .unset, .unset, .unset, .unset, .unset, .unset, .unset, .unset, .unset, .unset, .unset, .unset, .unset, .unset, .unset, .unset, .unset, .unset, .unset, .unset, .unset, .unset, .unset, .unset, .unset, .unset, .unset, .unset, .unset] [(.int 11), (.int (p2 &&& (15 : Int32)))])) X0 hx rfl (hb hby at_47) rfl (by decide) ?_
    show own_S p e below s₁ m 48 #[oI p0, oI p1, oI p2, oI p3, oI p4, oI k1v, oI k3v, oI jv, oI dlv, oI aev, oJ av, oV, oU, oU, oU, oU, oU, oU, oU, oU, oU, oU, oU, oU, oU, oU, oU, oU, oU, oU, oU, oU, oU, oU, oU, oU, oU, oU, oU, oU, oU, oU] [(.int ((p2 &&& (15 : Int32)) % (11 : Int32)))] _
    refine reI (hpv.symm : ((p2 &&& (15 : Int32)) % (11 : Int32)) = pv) ?_
    show own_S p e below s₁ m 48 #[oI p0, oI p1, oI p2, oI p3, oI p4, oI k1v, oI k3v, oI jv, oI dlv, oI aev, oJ av, oV, oU, oU, oU, oU, oU, oU, oU, oU, oU, oU, oU, oU, oU, oU, oU, oU, oU, oU, oU, oU, oU, oU, oU, oU, oU, oU, oU, oU, oU, oU] [(.int pv)] _
    refine XS.istore X0.here hx rfl (hb hby at_48) rfl (l' := #[.val (.int p0), .val (.int p1), .val (.int p2), .val (.int p3), .val (.int p4), .val (.int k1v), .val (.int k3v), .val (.int jv), .val (.int dlv), .val (.int aev), .val (.long av), .second, .val (.int pv), .unset, .unset, .unset, .unset, .unset, .unset, .unset, .unset, .unset, .unset, .unset, .unset, .unset, .unset, .unset, .unset, .unset, .unset, .unset, .unset, .unset, .unset, .unset, .unset, .unset, .unset, .unset, .unset, .unset]) rfl ?_
    show own_S p e below s₁ m 50 #[oI p0, oI p1, oI p2, oI p3, oI p4, oI k1v, oI k3v, oI jv, oI dlv, oI aev, oJ av, oV, oI pv, oU, oU, oU, oU, oU, oU, oU, oU, oU, oU, oU, oU, oU, oU, oU, oU, oU, oU, oU, oU, oU, oU, oU, oU, oU, oU, oU, oU, oU] [] _
    refine XS.iloadN X0.here hx rfl (hb hby at_50) rfl ?_
    show own_S p e below s₁ m 51 #[oI p0, oI p1, oI p2, oI p3, oI p4, oI k1v, oI k3v, oI jv, oI dlv, oI aev, oJ av, oV, oI pv, oU, oU, oU, oU, oU, oU, oU, oU, oU, oU, oU, oU, oU, oU, oU, oU, oU, oU, oU, oU, oU, oU, oU, oU, oU, oU, oU, oU, oU] [(.int p2)] _
    refine XS.iconst X0.here hx rfl (hb hby at_51) ?_
    show own_S p e below s₁ m 52 #[oI p0, oI p1, oI p2, oI p3, oI p4, oI k1v, oI k3v, oI jv, oI dlv, oI aev, oJ av, oV, oI pv, oU, oU, oU, oU, oU, oU, oU, oU, oU, oU, oU, oU, oU, oU, oU, oU, oU, oU, oU, oU, oU, oU, oU, oU, oU, oU, oU, oU, oU] [(.int 4), (.int p2)] _
    refine XS.iushr X0.here hx rfl (hb hby at_52) rfl ?_
    show own_S p e below s₁ m 53 #[oI p0, oI p1, oI p2, oI p3, oI p4, oI k1v, oI k3v, oI jv, oI dlv, oI aev, oJ av, oV, oI pv, oU, oU, oU, oU, oU, oU, oU, oU, oU, oU, oU, oU, oU, oU, oU, oU, oU, oU, oU, oU, oU, oU, oU, oU, oU, oU, oU, oU, oU] [(.int ((p2.toUInt32 >>> ((4 : Int32) &&& 31).toUInt32).toInt32))] _
    refine XS.bipush X0.here hx rfl (hb hby at_53) ?_
    show own_S p e below s₁ m 55 #[oI p0, oI p1, oI p2, oI p3, oI p4, oI k1v, oI k3v, oI jv, oI dlv, oI aev, oJ av, oV, oI pv, oU, oU, oU, oU, oU, oU, oU, oU, oU, oU, oU, oU, oU, oU, oU, oU, oU, oU, oU, oU, oU, oU, oU, oU, oU, oU, oU, oU, oU] [(.int 7), (.int ((p2.toUInt32 >>> ((4 : Int32) &&& 31).toUInt32).toInt32))] _
    refine XS.iand X0.here hx rfl (hb hby at_55) rfl ?_
    show own_S p e below s₁ m 56 #[oI p0, oI p1, oI p2, oI p3, oI p4, oI k1v, oI k3v, oI jv, oI dlv, oI aev, oJ av, oV, oI pv, oU, oU, oU, oU, oU, oU, oU, oU, oU, oU, oU, oU, oU, oU, oU, oU, oU, oU, oU, oU, oU, oU, oU, oU, oU, oU, oU, oU, oU] [(.int (((p2.toUInt32 >>> ((4 : Int32) &&& 31).toUInt32).toInt32) &&& (7 : Int32)))] _
    refine XS.bipush X0.here hx rfl (hb hby at_56) ?_
    show own_S p e below s₁ m 58 #[oI p0, oI p1, oI p2, oI p3, oI p4, oI k1v, oI k3v, oI jv, oI dlv, oI aev, oJ av, oV, oI pv, oU, oU, oU, oU, oU, oU, oU, oU, oU, oU, oU, oU, oU, oU, oU, oU, oU, oU, oU, oU, oU, oU, oU, oU, oU, oU, oU, oU, oU] [(.int 7), (.int (((p2.toUInt32 >>> ((4 : Int32) &&& 31).toUInt32).toInt32) &&& (7 : Int32)))] _
    refine iremM (g := (mkF m 58 #[.val (.int p0), .val (.int p1), .val (.int p2), .val (.int p3), .val (.int p4), .val (.int k1v), .val (.int k3v), .val (.int jv), .val (.int dlv), .val (.int aev), .val (.long av), .second, .val (.int pv), .unset, .unset, .unset, .unset, .unset, .unset, .unset, .unset, .unset, .unset, .unset, .unset, .unset, .unset, .unset, .unset, .unset, .unset, .unset, .unset, .unset, .unset, .unset, .unset, .unset, .unset, .unset, .unset, .unset] [(.int 7), (.int (((p2.toUInt32 >>> ((4 : Int32) &&& 31).toUInt32).toInt32) &&& (7 : Int32)))])) X0 hx rfl (hb hby at_58) rfl (by decide) ?_
    show own_S p e below s₁ m 59 #[oI p0, oI p1, oI p2, oI p3, oI p4, oI k1v, oI k3v, oI jv, oI dlv, oI aev, oJ av, oV, oI pv, oU, oU, oU, oU, oU, oU, oU, oU, oU, oU, oU, oU, oU, oU, oU, oU, oU, oU, oU, oU, oU, oU, oU, oU, oU, oU, oU, oU, oU] [(.int ((((p2.toUInt32 >>> ((4 : Int32) &&& 31).toUInt32).toInt32) &&& (7 : Int32)) % (7 : Int32)))] _
    refine reI (hqe.symm : ((((p2.toUInt32 >>> ((4 : Int32) &&& 31).toUInt32).toInt32) &&& (7 : Int32)) % (7 : Int32)) = qe) ?_
    show own_S p e below s₁ m 59 #[oI p0, oI p1, oI p2, oI p3, oI p4, oI k1v, oI k3v, oI jv, oI dlv, oI aev, oJ av, oV, oI pv, oU, oU, oU, oU, oU, oU, oU, oU, oU, oU, oU, oU, oU, oU, oU, oU, oU, oU, oU, oU, oU, oU, oU, oU, oU, oU, oU, oU, oU] [(.int qe)] _
    refine XS.istore X0.here hx rfl (hb hby at_59) rfl (l' := #[.val (.int p0), .val (.int p1), .val (.int p2), .val (.int p3), .val (.int p4), .val (.int k1v), .val (.int k3v), .val (.int jv), .val (.int dlv), .val (.int aev), .val (.long av), .second, .val (.int pv), .val (.int qe), .unset, .unset, .unset, .unset, .unset, .unset, .unset, .unset, .unset, .unset, .unset, .unset, .unset, .unset, .unset, .unset, .unset, .unset, .unset, .unset, .unset, .unset, .unset, .unset, .unset, .unset, .unset, .unset]) rfl ?_
    show own_S p e below s₁ m 61 #[oI p0, oI p1, oI p2, oI p3, oI p4, oI k1v, oI k3v, oI jv, oI dlv, oI aev, oJ av, oV, oI pv, oI qe, oU, oU, oU, oU, oU, oU, oU, oU, oU, oU, oU, oU, oU, oU, oU, oU, oU, oU, oU, oU, oU, oU, oU, oU, oU, oU, oU, oU] [] _
    refine XS.iloadN X0.here hx rfl (hb hby at_61) rfl ?_
    show own_S p e below s₁ m 62 #[oI p0, oI p1, oI p2, oI p3, oI p4, oI k1v, oI k3v, oI jv, oI dlv, oI aev, oJ av, oV, oI pv, oI qe, oU, oU, oU, oU, oU, oU, oU, oU, oU, oU, oU, oU, oU, oU, oU, oU, oU, oU, oU, oU, oU, oU, oU, oU, oU, oU, oU, oU] [(.int p3)] _
    refine XS.sipush X0.here hx rfl (hb hby at_62) ?_
    show own_S p e below s₁ m 65 #[oI p0, oI p1, oI p2, oI p3, oI p4, oI k1v, oI k3v, oI jv, oI dlv, oI aev, oJ av, oV, oI pv, oI qe, oU, oU, oU, oU, oU, oU, oU, oU, oU, oU, oU, oU, oU, oU, oU, oU, oU, oU, oU, oU, oU, oU, oU, oU, oU, oU, oU, oU] [(.int 1024), (.int p3)] _
    refine iremM (g := (mkF m 65 #[.val (.int p0), .val (.int p1), .val (.int p2), .val (.int p3), .val (.int p4), .val (.int k1v), .val (.int k3v), .val (.int jv), .val (.int dlv), .val (.int aev), .val (.long av), .second, .val (.int pv), .val (.int qe), .unset, .unset, .unset, .unset, .unset, .unset, .unset, .unset, .unset, .unset, .unset, .unset, .unset, .unset, .unset, .unset, .unset, .unset, .unset, .unset, .unset, .unset, .unset, .unset, .unset, .unset, .unset, .unset] [(.int 1024), (.int p3)])) X0 hx rfl (hb hby at_65) rfl (by decide) ?_
    show own_S p e below s₁ m 66 #[oI p0, oI p1, oI p2, oI p3, oI p4, oI k1v, oI k3v, oI jv, oI dlv, oI aev, oJ av, oV, oI pv, oI qe, oU, oU, oU, oU, oU, oU, oU, oU, oU, oU, oU, oU, oU, oU, oU, oU, oU, oU, oU, oU, oU, oU, oU, oU, oU, oU, oU, oU] [(.int (p3 % (1024 : Int32)))] _
    refine reI (hiv.symm : (p3 % (1024 : Int32)) = iv) ?_
    show own_S p e below s₁ m 66 #[oI p0, oI p1, oI p2, oI p3, oI p4, oI k1v, oI k3v, oI jv, oI dlv, oI aev, oJ av, oV, oI pv, oI qe, oU, oU, oU, oU, oU, oU, oU, oU, oU, oU, oU, oU, oU, oU, oU, oU, oU, oU, oU, oU, oU, oU, oU, oU, oU, oU, oU, oU] [(.int iv)] _
    refine XS.istore X0.here hx rfl (hb hby at_66) rfl (l' := #[.val (.int p0), .val (.int p1), .val (.int p2), .val (.int p3), .val (.int p4), .val (.int k1v), .val (.int k3v), .val (.int jv), .val (.int dlv), .val (.int aev), .val (.long av), .second, .val (.int pv), .val (.int qe), .val (.int iv), .unset, .unset, .unset, .unset, .unset, .unset, .unset, .unset, .unset, .unset, .unset, .unset, .unset, .unset, .unset, .unset, .unset, .unset, .unset, .unset, .unset, .unset, .unset, .unset, .unset, .unset, .unset]) rfl ?_
    show own_S p e below s₁ m 68 #[oI p0, oI p1, oI p2, oI p3, oI p4, oI k1v, oI k3v, oI jv, oI dlv, oI aev, oJ av, oV, oI pv, oI qe, oI iv, oU, oU, oU, oU, oU, oU, oU, oU, oU, oU, oU, oU, oU, oU, oU, oU, oU, oU, oU, oU, oU, oU, oU, oU, oU, oU, oU] [] _
    refine XS.iload X0.here hx rfl (hb hby at_68) rfl ?_
    show own_S p e below s₁ m 70 #[oI p0, oI p1, oI p2, oI p3, oI p4, oI k1v, oI k3v, oI jv, oI dlv, oI aev, oJ av, oV, oI pv, oI qe, oI iv, oU, oU, oU, oU, oU, oU, oU, oU, oU, oU, oU, oU, oU, oU, oU, oU, oU, oU, oU, oU, oU, oU, oU, oU, oU, oU, oU] [(.int p4)] _
    refine XS.iconst X0.here hx rfl (hb hby at_70) ?_
    show own_S p e below s₁ m 71 #[oI p0, oI p1, oI p2, oI p3, oI p4, oI k1v, oI k3v, oI jv, oI dlv, oI aev, oJ av, oV, oI pv, oI qe, oI iv, oU, oU, oU, oU, oU, oU, oU, oU, oU, oU, oU, oU, oU, oU, oU, oU, oU, oU, oU, oU, oU, oU, oU, oU, oU, oU, oU] [(.int 3), (.int p4)] _
    refine XS.iand X0.here hx rfl (hb hby at_71) rfl ?_
    show own_S p e below s₁ m 72 #[oI p0, oI p1, oI p2, oI p3, oI p4, oI k1v, oI k3v, oI jv, oI dlv, oI aev, oJ av, oV, oI pv, oI qe, oI iv, oU, oU, oU, oU, oU, oU, oU, oU, oU, oU, oU, oU, oU, oU, oU, oU, oU, oU, oU, oU, oU, oU, oU, oU, oU, oU, oU] [(.int (p4 &&& (3 : Int32)))] _
    refine reI (hmo.symm : (p4 &&& (3 : Int32)) = mo) ?_
    show own_S p e below s₁ m 72 #[oI p0, oI p1, oI p2, oI p3, oI p4, oI k1v, oI k3v, oI jv, oI dlv, oI aev, oJ av, oV, oI pv, oI qe, oI iv, oU, oU, oU, oU, oU, oU, oU, oU, oU, oU, oU, oU, oU, oU, oU, oU, oU, oU, oU, oU, oU, oU, oU, oU, oU, oU, oU] [(.int mo)] _
    refine XS.istore X0.here hx rfl (hb hby at_72) rfl (l' := #[.val (.int p0), .val (.int p1), .val (.int p2), .val (.int p3), .val (.int p4), .val (.int k1v), .val (.int k3v), .val (.int jv), .val (.int dlv), .val (.int aev), .val (.long av), .second, .val (.int pv), .val (.int qe), .val (.int iv), .val (.int mo), .unset, .unset, .unset, .unset, .unset, .unset, .unset, .unset, .unset, .unset, .unset, .unset, .unset, .unset, .unset, .unset, .unset, .unset, .unset, .unset, .unset, .unset, .unset, .unset, .unset, .unset]) rfl ?_
    show own_S p e below s₁ m 74 #[oI p0, oI p1, oI p2, oI p3, oI p4, oI k1v, oI k3v, oI jv, oI dlv, oI aev, oJ av, oV, oI pv, oI qe, oI iv, oI mo, oU, oU, oU, oU, oU, oU, oU, oU, oU, oU, oU, oU, oU, oU, oU, oU, oU, oU, oU, oU, oU, oU, oU, oU, oU, oU] [] _
    refine XS.iload X0.here hx rfl (hb hby at_74) rfl ?_
    show own_S p e below s₁ m 76 #[oI p0, oI p1, oI p2, oI p3, oI p4, oI k1v, oI k3v, oI jv, oI dlv, oI aev, oJ av, oV, oI pv, oI qe, oI iv, oI mo, oU, oU, oU, oU, oU, oU, oU, oU, oU, oU, oU, oU, oU, oU, oU, oU, oU, oU, oU, oU, oU, oU, oU, oU, oU, oU] [(.int k1v)] _
    refine XS.i2l X0.here hx rfl (hb hby at_76) rfl ?_
    show own_S p e below s₁ m 77 #[oI p0, oI p1, oI p2, oI p3, oI p4, oI k1v, oI k3v, oI jv, oI dlv, oI aev, oJ av, oV, oI pv, oI qe, oI iv, oI mo, oU, oU, oU, oU, oU, oU, oU, oU, oU, oU, oU, oU, oU, oU, oU, oU, oU, oU, oU, oU, oU, oU, oU, oU, oU, oU] [(.long (k1v.toInt64))] _
    refine X0.ldc2Long hx hown (mvT hZ (own_w hw 0 rfl)) (g := (mkF m 77 #[.val (.int p0), .val (.int p1), .val (.int p2), .val (.int p3), .val (.int p4), .val (.int k1v), .val (.int k3v), .val (.int jv), .val (.int dlv), .val (.int aev), .val (.long av), .second, .val (.int pv), .val (.int qe), .val (.int iv), .val (.int mo), .unset, .unset, .unset, .unset, .unset, .unset, .unset, .unset, .unset, .unset, .unset, .unset, .unset, .unset, .unset, .unset, .unset, .unset, .unset, .unset, .unset, .unset, .unset, .unset, .unset, .unset] [(.long (k1v.toInt64))])) rfl (hb hby at_77) _ ?_
    show own_S p e below s₁ m 80 #[oI p0, oI p1, oI p2, oI p3, oI p4, oI k1v, oI k3v, oI jv, oI dlv, oI aev, oJ av, oV, oI pv, oI qe, oI iv, oI mo, oU, oU, oU, oU, oU, oU, oU, oU, oU, oU, oU, oU, oU, oU, oU, oU, oU, oU, oU, oU, oU, oU, oU, oU, oU, oU] [(.long (32 : Int64)), (.long (k1v.toInt64))] _
    refine X0.ldc2Long hx hown (mvT hZ (own_w hw 1 rfl)) (g := (mkF m 80 #[.val (.int p0), .val (.int p1), .val (.int p2), .val (.int p3), .val (.int p4), .val (.int k1v), .val (.int k3v), .val (.int jv), .val (.int dlv), .val (.int aev), .val (.long av), .second, .val (.int pv), .val (.int qe), .val (.int iv), .val (.int mo), .unset, .unset, .unset, .unset, .unset, .unset, .unset, .unset, .unset, .unset, .unset, .unset, .unset, .unset, .unset, .unset, .unset, .unset, .unset, .unset, .unset, .unset, .unset, .unset, .unset, .unset] [(.long (32 : Int64)), (.long (k1v.toInt64))])) rfl (hb hby at_80) _ ?_
    show own_S p e below s₁ m 83 #[oI p0, oI p1, oI p2, oI p3, oI p4, oI k1v, oI k3v, oI jv, oI dlv, oI aev, oJ av, oV, oI pv, oI qe, oI iv, oI mo, oU, oU, oU, oU, oU, oU, oU, oU, oU, oU, oU, oU, oU, oU, oU, oU, oU, oU, oU, oU, oU, oU, oU, oU, oU, oU] [(.long (8 : Int64)), (.long (32 : Int64)), (.long (k1v.toInt64))] _
    refine XS.iload X0.here hx rfl (hb hby at_83) rfl ?_
    show own_S p e below s₁ m 85 #[oI p0, oI p1, oI p2, oI p3, oI p4, oI k1v, oI k3v, oI jv, oI dlv, oI aev, oJ av, oV, oI pv, oI qe, oI iv, oI mo, oU, oU, oU, oU, oU, oU, oU, oU, oU, oU, oU, oU, oU, oU, oU, oU, oU, oU, oU, oU, oU, oU, oU, oU, oU, oU] [(.int jv), (.long (8 : Int64)), (.long (32 : Int64)), (.long (k1v.toInt64))] _
    refine XS.i2l X0.here hx rfl (hb hby at_85) rfl ?_
    show own_S p e below s₁ m 86 #[oI p0, oI p1, oI p2, oI p3, oI p4, oI k1v, oI k3v, oI jv, oI dlv, oI aev, oJ av, oV, oI pv, oI qe, oI iv, oI mo, oU, oU, oU, oU, oU, oU, oU, oU, oU, oU, oU, oU, oU, oU, oU, oU, oU, oU, oU, oU, oU, oU, oU, oU, oU, oU] [(.long (jv.toInt64)), (.long (8 : Int64)), (.long (32 : Int64)), (.long (k1v.toInt64))] _
    refine XS.lmul X0.here hx rfl (hb hby at_86) rfl ?_
    show own_S p e below s₁ m 87 #[oI p0, oI p1, oI p2, oI p3, oI p4, oI k1v, oI k3v, oI jv, oI dlv, oI aev, oJ av, oV, oI pv, oI qe, oI iv, oI mo, oU, oU, oU, oU, oU, oU, oU, oU, oU, oU, oU, oU, oU, oU, oU, oU, oU, oU, oU, oU, oU, oU, oU, oU, oU, oU] [(.long ((8 : Int64) * (jv.toInt64))), (.long (32 : Int64)), (.long (k1v.toInt64))] _
    refine XS.lsub X0.here hx rfl (hb hby at_87) rfl ?_
    show own_S p e below s₁ m 88 #[oI p0, oI p1, oI p2, oI p3, oI p4, oI k1v, oI k3v, oI jv, oI dlv, oI aev, oJ av, oV, oI pv, oI qe, oI iv, oI mo, oU, oU, oU, oU, oU, oU, oU, oU, oU, oU, oU, oU, oU, oU, oU, oU, oU, oU, oU, oU, oU, oU, oU, oU, oU, oU] [(.long ((32 : Int64) - ((8 : Int64) * (jv.toInt64)))), (.long (k1v.toInt64))] _
    refine XS.iload X0.here hx rfl (hb hby at_88) rfl ?_
    show own_S p e below s₁ m 90 #[oI p0, oI p1, oI p2, oI p3, oI p4, oI k1v, oI k3v, oI jv, oI dlv, oI aev, oJ av, oV, oI pv, oI qe, oI iv, oI mo, oU, oU, oU, oU, oU, oU, oU, oU, oU, oU, oU, oU, oU, oU, oU, oU, oU, oU, oU, oU, oU, oU, oU, oU, oU, oU] [(.int jv), (.long ((32 : Int64) - ((8 : Int64) * (jv.toInt64)))), (.long (k1v.toInt64))] _
    refine XS.i2l X0.here hx rfl (hb hby at_90) rfl ?_
    show own_S p e below s₁ m 91 #[oI p0, oI p1, oI p2, oI p3, oI p4, oI k1v, oI k3v, oI jv, oI dlv, oI aev, oJ av, oV, oI pv, oI qe, oI iv, oI mo, oU, oU, oU, oU, oU, oU, oU, oU, oU, oU, oU, oU, oU, oU, oU, oU, oU, oU, oU, oU, oU, oU, oU, oU, oU, oU] [(.long (jv.toInt64)), (.long ((32 : Int64) - ((8 : Int64) * (jv.toInt64)))), (.long (k1v.toInt64))] _
    refine XS.iload X0.here hx rfl (hb hby at_91) rfl ?_
    show own_S p e below s₁ m 93 #[oI p0, oI p1, oI p2, oI p3, oI p4, oI k1v, oI k3v, oI jv, oI dlv, oI aev, oJ av, oV, oI pv, oI qe, oI iv, oI mo, oU, oU, oU, oU, oU, oU, oU, oU, oU, oU, oU, oU, oU, oU, oU, oU, oU, oU, oU, oU, oU, oU, oU, oU, oU, oU] [(.int dlv), (.long (jv.toInt64)), (.long ((32 : Int64) - ((8 : Int64) * (jv.toInt64)))), (.long (k1v.toInt64))] _
    refine XS.i2l X0.here hx rfl (hb hby at_93) rfl ?_
    show own_S p e below s₁ m 94 #[oI p0, oI p1, oI p2, oI p3, oI p4, oI k1v, oI k3v, oI jv, oI dlv, oI aev, oJ av, oV, oI pv, oI qe, oI iv, oI mo, oU, oU, oU, oU, oU, oU, oU, oU, oU, oU, oU, oU, oU, oU, oU, oU, oU, oU, oU, oU, oU, oU, oU, oU, oU, oU] [(.long (dlv.toInt64)), (.long (jv.toInt64)), (.long ((32 : Int64) - ((8 : Int64) * (jv.toInt64)))), (.long (k1v.toInt64))] _
    refine XS.lmul X0.here hx rfl (hb hby at_94) rfl ?_
    show own_S p e below s₁ m 95 #[oI p0, oI p1, oI p2, oI p3, oI p4, oI k1v, oI k3v, oI jv, oI dlv, oI aev, oJ av, oV, oI pv, oI qe, oI iv, oI mo, oU, oU, oU, oU, oU, oU, oU, oU, oU, oU, oU, oU, oU, oU, oU, oU, oU, oU, oU, oU, oU, oU, oU, oU, oU, oU] [(.long ((jv.toInt64) * (dlv.toInt64))), (.long ((32 : Int64) - ((8 : Int64) * (jv.toInt64)))), (.long (k1v.toInt64))] _
    refine XS.bipush X0.here hx rfl (hb hby at_95) ?_
    show own_S p e below s₁ m 97 #[oI p0, oI p1, oI p2, oI p3, oI p4, oI k1v, oI k3v, oI jv, oI dlv, oI aev, oJ av, oV, oI pv, oI qe, oI iv, oI mo, oU, oU, oU, oU, oU, oU, oU, oU, oU, oU, oU, oU, oU, oU, oU, oU, oU, oU, oU, oU, oU, oU, oU, oU, oU, oU] [(.int 8), (.long ((jv.toInt64) * (dlv.toInt64))), (.long ((32 : Int64) - ((8 : Int64) * (jv.toInt64)))), (.long (k1v.toInt64))] _
    refine XS.iload X0.here hx rfl (hb hby at_97) rfl ?_
    show own_S p e below s₁ m 99 #[oI p0, oI p1, oI p2, oI p3, oI p4, oI k1v, oI k3v, oI jv, oI dlv, oI aev, oJ av, oV, oI pv, oI qe, oI iv, oI mo, oU, oU, oU, oU, oU, oU, oU, oU, oU, oU, oU, oU, oU, oU, oU, oU, oU, oU, oU, oU, oU, oU, oU, oU, oU, oU] [(.int aev), (.int 8), (.long ((jv.toInt64) * (dlv.toInt64))), (.long ((32 : Int64) - ((8 : Int64) * (jv.toInt64)))), (.long (k1v.toInt64))] _
    refine XS.ishr X0.here hx rfl (hb hby at_99) rfl ?_
    show own_S p e below s₁ m 100 #[oI p0, oI p1, oI p2, oI p3, oI p4, oI k1v, oI k3v, oI jv, oI dlv, oI aev, oJ av, oV, oI pv, oI qe, oI iv, oI mo, oU, oU, oU, oU, oU, oU, oU, oU, oU, oU, oU, oU, oU, oU, oU, oU, oU, oU, oU, oU, oU, oU, oU, oU, oU, oU] [(.int ((8 : Int32) >>> (aev &&& 31))), (.long ((jv.toInt64) * (dlv.toInt64))), (.long ((32 : Int64) - ((8 : Int64) * (jv.toInt64)))), (.long (k1v.toInt64))] _
    refine XS.i2l X0.here hx rfl (hb hby at_100) rfl ?_
    show own_S p e below s₁ m 101 #[oI p0, oI p1, oI p2, oI p3, oI p4, oI k1v, oI k3v, oI jv, oI dlv, oI aev, oJ av, oV, oI pv, oI qe, oI iv, oI mo, oU, oU, oU, oU, oU, oU, oU, oU, oU, oU, oU, oU, oU, oU, oU, oU, oU, oU, oU, oU, oU, oU, oU, oU, oU, oU] [(.long (((8 : Int32) >>> (aev &&& 31)).toInt64)), (.long ((jv.toInt64) * (dlv.toInt64))), (.long ((32 : Int64) - ((8 : Int64) * (jv.toInt64)))), (.long (k1v.toInt64))] _
    refine XS.lmul X0.here hx rfl (hb hby at_101) rfl ?_
    show own_S p e below s₁ m 102 #[oI p0, oI p1, oI p2, oI p3, oI p4, oI k1v, oI k3v, oI jv, oI dlv, oI aev, oJ av, oV, oI pv, oI qe, oI iv, oI mo, oU, oU, oU, oU, oU, oU, oU, oU, oU, oU, oU, oU, oU, oU, oU, oU, oU, oU, oU, oU, oU, oU, oU, oU, oU, oU] [(.long (((jv.toInt64) * (dlv.toInt64)) * (((8 : Int32) >>> (aev &&& 31)).toInt64))), (.long ((32 : Int64) - ((8 : Int64) * (jv.toInt64)))), (.long (k1v.toInt64))] _
    refine XS.ladd X0.here hx rfl (hb hby at_102) rfl ?_
    show own_S p e below s₁ m 103 #[oI p0, oI p1, oI p2, oI p3, oI p4, oI k1v, oI k3v, oI jv, oI dlv, oI aev, oJ av, oV, oI pv, oI qe, oI iv, oI mo, oU, oU, oU, oU, oU, oU, oU, oU, oU, oU, oU, oU, oU, oU, oU, oU, oU, oU, oU, oU, oU, oU, oU, oU, oU, oU] [(.long (((32 : Int64) - ((8 : Int64) * (jv.toInt64))) + (((jv.toInt64) * (dlv.toInt64)) * (((8 : Int32) >>> (aev &&& 31)).toInt64)))), (.long (k1v.toInt64))] _
    refine XS.lmul X0.here hx rfl (hb hby at_103) rfl ?_
    show own_S p e below s₁ m 104 #[oI p0, oI p1, oI p2, oI p3, oI p4, oI k1v, oI k3v, oI jv, oI dlv, oI aev, oJ av, oV, oI pv, oI qe, oI iv, oI mo, oU, oU, oU, oU, oU, oU, oU, oU, oU, oU, oU, oU, oU, oU, oU, oU, oU, oU, oU, oU, oU, oU, oU, oU, oU, oU] [(.long ((k1v.toInt64) * (((32 : Int64) - ((8 : Int64) * (jv.toInt64))) + (((jv.toInt64) * (dlv.toInt64)) * (((8 : Int32) >>> (aev &&& 31)).toInt64)))))] _
    refine reJ (hlv.symm : ((k1v.toInt64) * (((32 : Int64) - ((8 : Int64) * (jv.toInt64))) + (((jv.toInt64) * (dlv.toInt64)) * (((8 : Int32) >>> (aev &&& 31)).toInt64)))) = lv) ?_
    show own_S p e below s₁ m 104 #[oI p0, oI p1, oI p2, oI p3, oI p4, oI k1v, oI k3v, oI jv, oI dlv, oI aev, oJ av, oV, oI pv, oI qe, oI iv, oI mo, oU, oU, oU, oU, oU, oU, oU, oU, oU, oU, oU, oU, oU, oU, oU, oU, oU, oU, oU, oU, oU, oU, oU, oU, oU, oU] [(.long lv)] _
    refine XS.lstore X0.here hx rfl (hb hby at_104) rfl (l' := #[.val (.int p0), .val (.int p1), .val (.int p2), .val (.int p3), .val (.int p4), .val (.int k1v), .val (.int k3v), .val (.int jv), .val (.int dlv), .val (.int aev), .val (.long av), .second, .val (.int pv), .val (.int qe), .val (.int iv), .val (.int mo), .val (.long lv), .second, .unset, .unset, .unset, .unset, .unset, .unset, .unset, .unset, .unset, .unset, .unset, .unset, .unset, .unset, .unset, .unset, .unset, .unset, .unset, .unset, .unset, .unset, .unset, .unset]) rfl ?_
    show own_S p e below s₁ m 106 #[oI p0, oI p1, oI p2, oI p3, oI p4, oI k1v, oI k3v, oI jv, oI dlv, oI aev, oJ av, oV, oI pv, oI qe, oI iv, oI mo, oJ lv, oV, oU, oU, oU, oU, oU, oU, oU, oU, oU, oU, oU, oU, oU, oU, oU, oU, oU, oU, oU, oU, oU, oU, oU, oU] [] _
    refine X0.ldc2Long hx hown (mvT hZ (own_w hw 0 rfl)) (g := (mkF m 106 #[.val (.int p0), .val (.int p1), .val (.int p2), .val (.int p3), .val (.int p4), .val (.int k1v), .val (.int k3v), .val (.int jv), .val (.int dlv), .val (.int aev), .val (.long av), .second, .val (.int pv), .val (.int qe), .val (.int iv), .val (.int mo), .val (.long lv), .second, .unset, .unset, .unset, .unset, .unset, .unset, .unset, .unset, .unset, .unset, .unset, .unset, .unset, .unset, .unset, .unset, .unset, .unset, .unset, .unset, .unset, .unset, .unset, .unset] [])) rfl (hb hby at_106) _ ?_
    show own_S p e below s₁ m 109 #[oI p0, oI p1, oI p2, oI p3, oI p4, oI k1v, oI k3v, oI jv, oI dlv, oI aev, oJ av, oV, oI pv, oI qe, oI iv, oI mo, oJ lv, oV, oU, oU, oU, oU, oU, oU, oU, oU, oU, oU, oU, oU, oU, oU, oU, oU, oU, oU, oU, oU, oU, oU, oU, oU] [(.long (32 : Int64))] _
    refine XS.iload X0.here hx rfl (hb hby at_109) rfl ?_
    show own_S p e below s₁ m 111 #[oI p0, oI p1, oI p2, oI p3, oI p4, oI k1v, oI k3v, oI jv, oI dlv, oI aev, oJ av, oV, oI pv, oI qe, oI iv, oI mo, oJ lv, oV, oU, oU, oU, oU, oU, oU, oU, oU, oU, oU, oU, oU, oU, oU, oU, oU, oU, oU, oU, oU, oU, oU, oU, oU] [(.int pv), (.long (32 : Int64))] _
    refine XS.lshl X0.here hx rfl (hb hby at_111) rfl ?_
    show own_S p e below s₁ m 112 #[oI p0, oI p1, oI p2, oI p3, oI p4, oI k1v, oI k3v, oI jv, oI dlv, oI aev, oJ av, oV, oI pv, oI qe, oI iv, oI mo, oJ lv, oV, oU, oU, oU, oU, oU, oU, oU, oU, oU, oU, oU, oU, oU, oU, oU, oU, oU, oU, oU, oU, oU, oU, oU, oU] [(.long ((32 : Int64) <<< (pv &&& 0x3f).toInt64))] _
    refine reJ (htv.symm : ((32 : Int64) <<< (pv &&& 0x3f).toInt64) = tv) ?_
    show own_S p e below s₁ m 112 #[oI p0, oI p1, oI p2, oI p3, oI p4, oI k1v, oI k3v, oI jv, oI dlv, oI aev, oJ av, oV, oI pv, oI qe, oI iv, oI mo, oJ lv, oV, oU, oU, oU, oU, oU, oU, oU, oU, oU, oU, oU, oU, oU, oU, oU, oU, oU, oU, oU, oU, oU, oU, oU, oU] [(.long tv)] _
    refine XS.lstore X0.here hx rfl (hb hby at_112) rfl (l' := #[.val (.int p0), .val (.int p1), .val (.int p2), .val (.int p3), .val (.int p4), .val (.int k1v), .val (.int k3v), .val (.int jv), .val (.int dlv), .val (.int aev), .val (.long av), .second, .val (.int pv), .val (.int qe), .val (.int iv), .val (.int mo), .val (.long lv), .second, .val (.long tv), .second, .unset, .unset, .unset, .unset, .unset, .unset, .unset, .unset, .unset, .unset, .unset, .unset, .unset, .unset, .unset, .unset, .unset, .unset, .unset, .unset, .unset, .unset]) rfl ?_
    show own_S p e below s₁ m 114 #[oI p0, oI p1, oI p2, oI p3, oI p4, oI k1v, oI k3v, oI jv, oI dlv, oI aev, oJ av, oV, oI pv, oI qe, oI iv, oI mo, oJ lv, oV, oJ tv, oV, oU, oU, oU, oU, oU, oU, oU, oU, oU, oU, oU, oU, oU, oU, oU, oU, oU, oU, oU, oU, oU, oU] [] _
    refine XS.lload X0.here hx rfl (hb hby at_114) rfl ?_
    show own_S p e below s₁ m 116 #[oI p0, oI p1, oI p2, oI p3, oI p4, oI k1v, oI k3v, oI jv, oI dlv, oI aev, oJ av, oV, oI pv, oI qe, oI iv, oI mo, oJ lv, oV, oJ tv, oV, oU, oU, oU, oU, oU, oU, oU, oU, oU, oU, oU, oU, oU, oU, oU, oU, oU, oU, oU, oU, oU, oU] [(.long tv)] _
    refine XS.lload X0.here hx rfl (hb hby at_116) rfl ?_
    show own_S p e below s₁ m 118 #[oI p0, oI p1, oI p2, oI p3, oI p4, oI k1v, oI k3v, oI jv, oI dlv, oI aev, oJ av, oV, oI pv, oI qe, oI iv, oI mo, oJ lv, oV, oJ tv, oV, oU, oU, oU, oU, oU, oU, oU, oU, oU, oU, oU, oU, oU, oU, oU, oU, oU, oU, oU, oU, oU, oU] [(.long lv), (.long tv)] _
    refine XS.lcmp X0.here hx rfl (hb hby at_118) rfl ?_
    exact kt
  have pre102 : ∀ t, Steps p.tables e below (s₁.setTop (mkF m 137 #[.val (.int p0), .val (.int p1), .val (.int p2), .val (.int p3), .val (.int p4), .val (.int k1v), .val (.int k3v), .val (.int jv), .val (.int dlv), .val (.int aev), .val (.long av), .second, .val (.int px), .val (.int qe), .val (.int iv), .val (.int mo), .val (.long lv), .second, .val (.long tx), .second, .unset, .unset, .unset, .unset, .unset, .unset, .unset, .unset, .unset, .unset, .unset, .unset, .unset, .unset, .unset, .unset, .unset, .unset, .unset, .unset, .unset, .unset] [])) t → Steps p.tables e below (s₁.setTop (mkF m 0 #[.val (.int p0), .val (.int p1), .val (.int p2), .val (.int p3), .val (.int p4), .unset, .unset, .unset, .unset, .unset, .unset, .unset, .unset, .unset, .unset, .unset, .unset, .unset, .unset, .unset, .unset, .unset, .unset, .unset, .unset, .unset, .unset, .unset, .unset, .unset, .unset, .unset, .unset, .unset, .unset, .unset, .unset, .unset, .unset, .unset, .unset, .unset] [])) t := by
    intro t kt
    refine pre101 _ ?_
    by_cases hT : (0 : Int32) < (lcmpW tv lv)
    · skip
      show own_S p e below s₁ m 119 #[oI p0, oI p1, oI p2, oI p3, oI p4, oI k1v, oI k3v, oI jv, oI dlv, oI aev, oJ av, oV, oI pv, oI qe, oI iv, oI mo, oJ lv, oV, oJ tv, oV, oU, oU, oU, oU, oU, oU, oU, oU, oU, oU, oU, oU, oU, oU, oU, oU, oU, oU, oU, oU, oU, oU] [(.int (lcmpW tv lv))] _
      refine XS.ifYes X0.here hx rfl (pc0 := 119) (pc' := 137) rfl (hb hby at_119) rfl ((if0 _ _).trans (tlt (hT : (0 : Int32) < (lcmpW tv lv))).2.2.1) (by decide) (by decide) ?_
      rw [(hpx.trans (if_pos hT) : px = pv)] at kt
      rw [(htx.trans (if_pos hT) : tx = tv)] at kt
      exact kt
    · skip
      show own_S p e below s₁ m 119 #[oI p0, oI p1, oI p2, oI p3, oI p4, oI k1v, oI k3v, oI jv, oI dlv, oI aev, oJ av, oV, oI pv, oI qe, oI iv, oI mo, oJ lv, oV, oJ tv, oV, oU, oU, oU, oU, oU, oU, oU, oU, oU, oU, oU, oU, oU, oU, oU, oU, oU, oU, oU, oU, oU, oU] [(.int (lcmpW tv lv))] _
      refine XS.ifNo X0.here hx rfl (hb hby at_119) rfl ((if0 _ _).trans (flt (hT : ¬ ((0 : Int32) < (lcmpW tv lv)))).2.2.1) ?_
      show own_S p e below s₁ m 122 #[oI p0, oI p1, oI p2, oI p3, oI p4, oI k1v, oI k3v, oI jv, oI dlv, oI aev, oJ av, oV, oI pv, oI qe, oI iv, oI mo, oJ lv, oV, oJ tv, oV, oU, oU, oU, oU, oU, oU, oU, oU, oU, oU, oU, oU, oU, oU, oU, oU, oU, oU, oU, oU, oU, oU] [] _
      refine XS.iload X0.here hx rfl (hb hby at_122) rfl ?_
      show own_S p e below s₁ m 124 #[oI p0, oI p1, oI p2, oI p3, oI p4, oI k1v, oI k3v, oI jv, oI dlv, oI aev, oJ av, oV, oI pv, oI qe, oI iv, oI mo, oJ lv, oV, oJ tv, oV, oU, oU, oU, oU, oU, oU, oU, oU, oU, oU, oU, oU, oU, oU, oU, oU, oU, oU, oU, oU, oU, oU] [(.int pv)] _
      refine XS.bipush X0.here hx rfl (hb hby at_124) ?_
      show own_S p e below s₁ m 126 #[oI p0, oI p1, oI p2, oI p3, oI p4, oI k1v, oI k3v, oI jv, oI dlv, oI aev, oJ av, oV, oI pv, oI qe, oI iv, oI mo, oJ lv, oV, oJ tv, oV, oU, oU, oU, oU, oU, oU, oU, oU, oU, oU, oU, oU, oU, oU, oU, oU, oU, oU, oU, oU, oU, oU] [(.int 7), (.int pv)] _
      refine XS.iadd X0.here hx rfl (hb hby at_126) rfl ?_
      show own_S p e below s₁ m 127 #[oI p0, oI p1, oI p2, oI p3, oI p4, oI k1v, oI k3v, oI jv, oI dlv, oI aev, oJ av, oV, oI pv, oI qe, oI iv, oI mo, oJ lv, oV, oJ tv, oV, oU, oU, oU, oU, oU, oU, oU, oU, oU, oU, oU, oU, oU, oU, oU, oU, oU, oU, oU, oU, oU, oU] [(.int (pv + (7 : Int32)))] _
      refine XS.istore X0.here hx rfl (hb hby at_127) rfl (l' := #[.val (.int p0), .val (.int p1), .val (.int p2), .val (.int p3), .val (.int p4), .val (.int k1v), .val (.int k3v), .val (.int jv), .val (.int dlv), .val (.int aev), .val (.long av), .second, .val (.int (pv + (7 : Int32))), .val (.int qe), .val (.int iv), .val (.int mo), .val (.long lv), .second, .val (.long tv), .second, .unset, .unset, .unset, .unset, .unset, .unset, .unset, .unset, .unset, .unset, .unset, .unset, .unset, .unset, .unset, .unset, .unset, .unset, .unset, .unset, .unset, .unset]) rfl ?_
      show own_S p e below s₁ m 129 #[oI p0, oI p1, oI p2, oI p3, oI p4, oI k1v, oI k3v, oI jv, oI dlv, oI aev, oJ av, oV, .val (.int (pv + (7 : Int32))), oI qe, oI iv, oI mo, oJ lv, oV, oJ tv, oV, oU, oU, oU, oU, oU, oU, oU, oU, oU, oU, oU, oU, oU, oU, oU, oU, oU, oU, oU, oU, oU, oU] [] _
      refine X0.ldc2Long hx hown (mvT hZ (own_w hw 0 rfl)) (g := (mkF m 129 #[.val (.int p0), .val (.int p1), .val (.int p2), .val (.int p3), .val (.int p4), .val (.int k1v), .val (.int k3v), .val (.int jv), .val (.int dlv), .val (.int aev), .val (.long av), .second, .val (.int (pv + (7 : Int32))), .val (.int qe), .val (.int iv), .val (.int mo), .val (.long lv), .second, .val (.long tv), .second, .unset, .unset, .unset, .unset, .unset, .unset, .unset, .unset, .unset, .unset, .unset, .unset, .unset, .unset, .unset, .unset, .unset, .unset, .unset, .unset, .unset, .unset] [])) rfl (hb hby at_129) _ ?_
      show own_S p e below s₁ m 132 #[oI p0, oI p1, oI p2, oI p3, oI p4, oI k1v, oI k3v, oI jv, oI dlv, oI aev, oJ av, oV, .val (.int (pv + (7 : Int32))), oI qe, oI iv, oI mo, oJ lv, oV, oJ tv, oV, oU, oU, oU, oU, oU, oU, oU, oU, oU, oU, oU, oU, oU, oU, oU, oU, oU, oU, oU, oU, oU, oU] [(.long (32 : Int64))] _
      refine XS.iload X0.here hx rfl (hb hby at_132) rfl ?_
      show own_S p e below s₁ m 134 #[oI p0, oI p1, oI p2, oI p3, oI p4, oI k1v, oI k3v, oI jv, oI dlv, oI aev, oJ av, oV, .val (.int (pv + (7 : Int32))), oI qe, oI iv, oI mo, oJ lv, oV, oJ tv, oV, oU, oU, oU, oU, oU, oU, oU, oU, oU, oU, oU, oU, oU, oU, oU, oU, oU, oU, oU, oU, oU, oU] [(.int (pv + (7 : Int32))), (.long (32 : Int64))] _
      refine XS.lshl X0.here hx rfl (hb hby at_134) rfl ?_
      show own_S p e below s₁ m 135 #[oI p0, oI p1, oI p2, oI p3, oI p4, oI k1v, oI k3v, oI jv, oI dlv, oI aev, oJ av, oV, .val (.int (pv + (7 : Int32))), oI qe, oI iv, oI mo, oJ lv, oV, oJ tv, oV, oU, oU, oU, oU, oU, oU, oU, oU, oU, oU, oU, oU, oU, oU, oU, oU, oU, oU, oU, oU, oU, oU] [(.long ((32 : Int64) <<< ((pv + (7 : Int32)) &&& 0x3f).toInt64))] _
      refine reJ (htw.symm : ((32 : Int64) <<< ((pv + (7 : Int32)) &&& 0x3f).toInt64) = tw) ?_
      show own_S p e below s₁ m 135 #[oI p0, oI p1, oI p2, oI p3, oI p4, oI k1v, oI k3v, oI jv, oI dlv, oI aev, oJ av, oV, .val (.int (pv + (7 : Int32))), oI qe, oI iv, oI mo, oJ lv, oV, oJ tv, oV, oU, oU, oU, oU, oU, oU, oU, oU, oU, oU, oU, oU, oU, oU, oU, oU, oU, oU, oU, oU, oU, oU] [(.long tw)] _
      refine XS.lstore X0.here hx rfl (hb hby at_135) rfl (l' := #[.val (.int p0), .val (.int p1), .val (.int p2), .val (.int p3), .val (.int p4), .val (.int k1v), .val (.int k3v), .val (.int jv), .val (.int dlv), .val (.int aev), .val (.long av), .second, .val (.int (pv + (7 : Int32))), .val (.int qe), .val (.int iv), .val (.int mo), .val (.long lv), .second, .val (.long tw), .second, .unset, .unset, .unset, .unset, .unset, .unset, .unset, .unset, .unset, .unset, .unset, .unset, .unset, .unset, .unset, .unset, .unset, .unset, .unset, .unset, .unset, .unset]) rfl ?_
      rw [(hpx.trans (if_neg hT) : px = (pv + (7 : Int32)))] at kt
      rw [(htx.trans (if_neg hT) : tx = tw)] at kt
      exact kt
  have pre103 : ∀ t, Steps p.tables e below (s₁.setTop (mkF m 156 #[.val (.int p0), .val (.int p1), .val (.int p2), .val (.int p3), .val (.int p4), .val (.int k1v), .val (.int k3v), .val (.int jv), .val (.int dlv), .val (.int aev), .val (.long av), .second, .val (.int px), .val (.int qe), .val (.int iv), .val (.int mo), .val (.long lv), .second, .val (.long tx), .second, .val (.long fv), .second, .val (.long qv), .second, .unset, .unset, .unset, .unset, .unset, .unset, .unset, .unset, .unset, .unset, .unset, .unset, .unset, .unset, .unset, .unset, .unset, .unset] [(.int (lcmpW qv (k3v.toInt64)))])) t → Steps p.tables e below (s₁.setTop (mkF m 0 #[.val (.int p0), .val (.int p1), .val (.int p2), .val (.int p3), .val (.int p4), .unset, .unset, .unset, .unset, .unset, .unset, .unset, .unset, .unset, .unset, .unset, .unset, .unset, .unset, .unset, .unset, .unset, .unset, .unset, .unset, .unset, .unset, .unset, .unset, .unset, .unset, .unset, .unset, .unset, .unset, .unset, .unset, .unset, .unset, .unset, .unset, .unset] [])) t := by
    intro t kt
    refine pre102 _ ?_
    show own_S p e below s₁ m 137 #[oI p0, oI p1, oI p2, oI p3, oI p4, oI k1v, oI k3v, oI jv, oI dlv, oI aev, oJ av, oV, oI px, oI qe, oI iv, oI mo, oJ lv, oV, oJ tx, oV, oU, oU, oU, oU, oU, oU, oU, oU, oU, oU, oU, oU, oU, oU, oU, oU, oU, oU, oU, oU, oU, oU] [] _
    refine XS.lload X0.here hx rfl (hb hby at_137) rfl ?_
    show own_S p e below s₁ m 139 #[oI p0, oI p1, oI p2, oI p3, oI p4, oI k1v, oI k3v, oI jv, oI dlv, oI aev, oJ av, oV, oI px, oI qe, oI iv, oI mo, oJ lv, oV, oJ tx, oV, oU, oU, oU, oU, oU, oU, oU, oU, oU, oU, oU, oU, oU, oU, oU, oU, oU, oU, oU, oU, oU, oU] [(.long tx)] _
    refine XS.lload X0.here hx rfl (hb hby at_139) rfl ?_
    show own_S p e below s₁ m 141 #[oI p0, oI p1, oI p2, oI p3, oI p4, oI k1v, oI k3v, oI jv, oI dlv, oI aev, oJ av, oV, oI px, oI qe, oI iv, oI mo, oJ lv, oV, oJ tx, oV, oU, oU, oU, oU, oU, oU, oU, oU, oU, oU, oU, oU, oU, oU, oU, oU, oU, oU, oU, oU, oU, oU] [(.long lv), (.long tx)] _
    refine XS.lsub X0.here hx rfl (hb hby at_141) rfl ?_
    show own_S p e below s₁ m 142 #[oI p0, oI p1, oI p2, oI p3, oI p4, oI k1v, oI k3v, oI jv, oI dlv, oI aev, oJ av, oV, oI px, oI qe, oI iv, oI mo, oJ lv, oV, oJ tx, oV, oU, oU, oU, oU, oU, oU, oU, oU, oU, oU, oU, oU, oU, oU, oU, oU, oU, oU, oU, oU, oU, oU] [(.long (tx - lv))] _
    refine reJ (hfv.symm : (tx - lv) = fv) ?_
    show own_S p e below s₁ m 142 #[oI p0, oI p1, oI p2, oI p3, oI p4, oI k1v, oI k3v, oI jv, oI dlv, oI aev, oJ av, oV, oI px, oI qe, oI iv, oI mo, oJ lv, oV, oJ tx, oV, oU, oU, oU, oU, oU, oU, oU, oU, oU, oU, oU, oU, oU, oU, oU, oU, oU, oU, oU, oU, oU, oU] [(.long fv)] _
    refine XS.lstore X0.here hx rfl (hb hby at_142) rfl (l' := #[.val (.int p0), .val (.int p1), .val (.int p2), .val (.int p3), .val (.int p4), .val (.int k1v), .val (.int k3v), .val (.int jv), .val (.int dlv), .val (.int aev), .val (.long av), .second, .val (.int px), .val (.int qe), .val (.int iv), .val (.int mo), .val (.long lv), .second, .val (.long tx), .second, .val (.long fv), .second, .unset, .unset, .unset, .unset, .unset, .unset, .unset, .unset, .unset, .unset, .unset, .unset, .unset, .unset, .unset, .unset, .unset, .unset, .unset, .unset]) rfl ?_
    show own_S p e below s₁ m 144 #[oI p0, oI p1, oI p2, oI p3, oI p4, oI k1v, oI k3v, oI jv, oI dlv, oI aev, oJ av, oV, oI px, oI qe, oI iv, oI mo, oJ lv, oV, oJ tx, oV, oJ fv, oV, oU, oU, oU, oU, oU, oU, oU, oU, oU, oU, oU, oU, oU, oU, oU, oU, oU, oU, oU, oU] [] _
    refine XS.lconst X0.here hx rfl (hb hby at_144) ?_
    show own_S p e below s₁ m 145 #[oI p0, oI p1, oI p2, oI p3, oI p4, oI k1v, oI k3v, oI jv, oI dlv, oI aev, oJ av, oV, oI px, oI qe, oI iv, oI mo, oJ lv, oV, oJ tx, oV, oJ fv, oV, oU, oU, oU, oU, oU, oU, oU, oU, oU, oU, oU, oU, oU, oU, oU, oU, oU, oU, oU, oU] [(.long (1 : Int64))] _
    refine XS.iload X0.here hx rfl (hb hby at_145) rfl ?_
    show own_S p e below s₁ m 147 #[oI p0, oI p1, oI p2, oI p3, oI p4, oI k1v, oI k3v, oI jv, oI dlv, oI aev, oJ av, oV, oI px, oI qe, oI iv, oI mo, oJ lv, oV, oJ tx, oV, oJ fv, oV, oU, oU, oU, oU, oU, oU, oU, oU, oU, oU, oU, oU, oU, oU, oU, oU, oU, oU, oU, oU] [(.int qe), (.long (1 : Int64))] _
    refine XS.lshl X0.here hx rfl (hb hby at_147) rfl ?_
    show own_S p e below s₁ m 148 #[oI p0, oI p1, oI p2, oI p3, oI p4, oI k1v, oI k3v, oI jv, oI dlv, oI aev, oJ av, oV, oI px, oI qe, oI iv, oI mo, oJ lv, oV, oJ tx, oV, oJ fv, oV, oU, oU, oU, oU, oU, oU, oU, oU, oU, oU, oU, oU, oU, oU, oU, oU, oU, oU, oU, oU] [(.long ((1 : Int64) <<< (qe &&& 0x3f).toInt64))] _
    refine reJ (hqv.symm : ((1 : Int64) <<< (qe &&& 0x3f).toInt64) = qv) ?_
    show own_S p e below s₁ m 148 #[oI p0, oI p1, oI p2, oI p3, oI p4, oI k1v, oI k3v, oI jv, oI dlv, oI aev, oJ av, oV, oI px, oI qe, oI iv, oI mo, oJ lv, oV, oJ tx, oV, oJ fv, oV, oU, oU, oU, oU, oU, oU, oU, oU, oU, oU, oU, oU, oU, oU, oU, oU, oU, oU, oU, oU] [(.long qv)] _
    refine XS.lstore X0.here hx rfl (hb hby at_148) rfl (l' := #[.val (.int p0), .val (.int p1), .val (.int p2), .val (.int p3), .val (.int p4), .val (.int k1v), .val (.int k3v), .val (.int jv), .val (.int dlv), .val (.int aev), .val (.long av), .second, .val (.int px), .val (.int qe), .val (.int iv), .val (.int mo), .val (.long lv), .second, .val (.long tx), .second, .val (.long fv), .second, .val (.long qv), .second, .unset, .unset, .unset, .unset, .unset, .unset, .unset, .unset, .unset, .unset, .unset, .unset, .unset, .unset, .unset, .unset, .unset, .unset]) rfl ?_
    show own_S p e below s₁ m 150 #[oI p0, oI p1, oI p2, oI p3, oI p4, oI k1v, oI k3v, oI jv, oI dlv, oI aev, oJ av, oV, oI px, oI qe, oI iv, oI mo, oJ lv, oV, oJ tx, oV, oJ fv, oV, oJ qv, oV, oU, oU, oU, oU, oU, oU, oU, oU, oU, oU, oU, oU, oU, oU, oU, oU, oU, oU] [] _
    refine XS.lload X0.here hx rfl (hb hby at_150) rfl ?_
    show own_S p e below s₁ m 152 #[oI p0, oI p1, oI p2, oI p3, oI p4, oI k1v, oI k3v, oI jv, oI dlv, oI aev, oJ av, oV, oI px, oI qe, oI iv, oI mo, oJ lv, oV, oJ tx, oV, oJ fv, oV, oJ qv, oV, oU, oU, oU, oU, oU, oU, oU, oU, oU, oU, oU, oU, oU, oU, oU, oU, oU, oU] [(.long qv)] _
    refine XS.iload X0.here hx rfl (hb hby at_152) rfl ?_
    show own_S p e below s₁ m 154 #[oI p0, oI p1, oI p2, oI p3, oI p4, oI k1v, oI k3v, oI jv, oI dlv, oI aev, oJ av, oV, oI px, oI qe, oI iv, oI mo, oJ lv, oV, oJ tx, oV, oJ fv, oV, oJ qv, oV, oU, oU, oU, oU, oU, oU, oU, oU, oU, oU, oU, oU, oU, oU, oU, oU, oU, oU] [(.int k3v), (.long qv)] _
    refine XS.i2l X0.here hx rfl (hb hby at_154) rfl ?_
    show own_S p e below s₁ m 155 #[oI p0, oI p1, oI p2, oI p3, oI p4, oI k1v, oI k3v, oI jv, oI dlv, oI aev, oJ av, oV, oI px, oI qe, oI iv, oI mo, oJ lv, oV, oJ tx, oV, oJ fv, oV, oJ qv, oV, oU, oU, oU, oU, oU, oU, oU, oU, oU, oU, oU, oU, oU, oU, oU, oU, oU, oU] [(.long (k3v.toInt64)), (.long qv)] _
    refine XS.lcmp X0.here hx rfl (hb hby at_155) rfl ?_
    exact kt
  have pre104 : ∀ t, Steps p.tables e below (s₁.setTop (mkF m 171 #[.val (.int p0), .val (.int p1), .val (.int p2), .val (.int p3), .val (.int p4), .val (.int k1v), .val (.int k3v), .val (.int jv), .val (.int dlv), .val (.int aev), .val (.long av), .second, .val (.int px), .val (.int ex), .val (.int iv), .val (.int mo), .val (.long lv), .second, .val (.long tx), .second, .val (.long fv), .second, .val (.long qx), .second, .unset, .unset, .unset, .unset, .unset, .unset, .unset, .unset, .unset, .unset, .unset, .unset, .unset, .unset, .unset, .unset, .unset, .unset] [])) t → Steps p.tables e below (s₁.setTop (mkF m 0 #[.val (.int p0), .val (.int p1), .val (.int p2), .val (.int p3), .val (.int p4), .unset, .unset, .unset, .unset, .unset, .unset, .unset, .unset, .unset, .unset, .unset, .unset, .unset, .unset, .unset, .unset, .unset, .unset, .unset, .unset, .unset, .unset, .unset, .unset, .unset, .unset, .unset, .unset, .unset, .unset, .unset, .unset, .unset, .unset, .unset, .unset, .unset] [])) t := by
    intro t kt
    refine pre103 _ ?_
    by_cases hQ : (0 : Int32) < (lcmpW qv (k3v.toInt64))
    · skip
      show own_S p e below s₁ m 156 #[oI p0, oI p1, oI p2, oI p3, oI p4, oI k1v, oI k3v, oI jv, oI dlv, oI aev, oJ av, oV, oI px, oI qe, oI iv, oI mo, oJ lv, oV, oJ tx, oV, oJ fv, oV, oJ qv, oV, oU, oU, oU, oU, oU, oU, oU, oU, oU, oU, oU, oU, oU, oU, oU, oU, oU, oU] [(.int (lcmpW qv (k3v.toInt64)))] _
      refine XS.ifYes X0.here hx rfl (pc0 := 156) (pc' := 171) rfl (hb hby at_156) rfl ((if0 _ _).trans (tlt (hQ : (0 : Int32) < (lcmpW qv (k3v.toInt64)))).2.2.1) (by decide) (by decide) ?_
      rw [(hex.trans (if_pos hQ) : ex = qe)] at kt
      rw [(hqx.trans (if_pos hQ) : qx = qv)] at kt
      exact kt
    · skip
      show own_S p e below s₁ m 156 #[oI p0, oI p1, oI p2, oI p3, oI p4, oI k1v, oI k3v, oI jv, oI dlv, oI aev, oJ av, oV, oI px, oI qe, oI iv, oI mo, oJ lv, oV, oJ tx, oV, oJ fv, oV, oJ qv, oV, oU, oU, oU, oU, oU, oU, oU, oU, oU, oU, oU, oU, oU, oU, oU, oU, oU, oU] [(.int (lcmpW qv (k3v.toInt64)))] _
      refine XS.ifNo X0.here hx rfl (hb hby at_156) rfl ((if0 _ _).trans (flt (hQ : ¬ ((0 : Int32) < (lcmpW qv (k3v.toInt64))))).2.2.1) ?_
      show own_S p e below s₁ m 159 #[oI p0, oI p1, oI p2, oI p3, oI p4, oI k1v, oI k3v, oI jv, oI dlv, oI aev, oJ av, oV, oI px, oI qe, oI iv, oI mo, oJ lv, oV, oJ tx, oV, oJ fv, oV, oJ qv, oV, oU, oU, oU, oU, oU, oU, oU, oU, oU, oU, oU, oU, oU, oU, oU, oU, oU, oU] [] _
      refine XS.iload X0.here hx rfl (hb hby at_159) rfl ?_
      show own_S p e below s₁ m 161 #[oI p0, oI p1, oI p2, oI p3, oI p4, oI k1v, oI k3v, oI jv, oI dlv, oI aev, oJ av, oV, oI px, oI qe, oI iv, oI mo, oJ lv, oV, oJ tx, oV, oJ fv, oV, oJ qv, oV, oU, oU, oU, oU, oU, oU, oU, oU, oU, oU, oU, oU, oU, oU, oU, oU, oU, oU] [(.int qe)] _
      refine XS.iconst X0.here hx rfl (hb hby at_161) ?_
      show own_S p e below s₁ m 162 #[oI p0, oI p1, oI p2, oI p3, oI p4, oI k1v, oI k3v, oI jv, oI dlv, oI aev, oJ av, oV, oI px, oI qe, oI iv, oI mo, oJ lv, oV, oJ tx, oV, oJ fv, oV, oJ qv, oV, oU, oU, oU, oU, oU, oU, oU, oU, oU, oU, oU, oU, oU, oU, oU, oU, oU, oU] [(.int 3), (.int qe)] _
      refine XS.iadd X0.here hx rfl (hb hby at_162) rfl ?_
      show own_S p e below s₁ m 163 #[oI p0, oI p1, oI p2, oI p3, oI p4, oI k1v, oI k3v, oI jv, oI dlv, oI aev, oJ av, oV, oI px, oI qe, oI iv, oI mo, oJ lv, oV, oJ tx, oV, oJ fv, oV, oJ qv, oV, oU, oU, oU, oU, oU, oU, oU, oU, oU, oU, oU, oU, oU, oU, oU, oU, oU, oU] [(.int (qe + (3 : Int32)))] _
      refine XS.istore X0.here hx rfl (hb hby at_163) rfl (l' := #[.val (.int p0), .val (.int p1), .val (.int p2), .val (.int p3), .val (.int p4), .val (.int k1v), .val (.int k3v), .val (.int jv), .val (.int dlv), .val (.int aev), .val (.long av), .second, .val (.int px), .val (.int (qe + (3 : Int32))), .val (.int iv), .val (.int mo), .val (.long lv), .second, .val (.long tx), .second, .val (.long fv), .second, .val (.long qv), .second, .unset, .unset, .unset, .unset, .unset, .unset, .unset, .unset, .unset, .unset, .unset, .unset, .unset, .unset, .unset, .unset, .unset, .unset]) rfl ?_
      show own_S p e below s₁ m 165 #[oI p0, oI p1, oI p2, oI p3, oI p4, oI k1v, oI k3v, oI jv, oI dlv, oI aev, oJ av, oV, oI px, .val (.int (qe + (3 : Int32))), oI iv, oI mo, oJ lv, oV, oJ tx, oV, oJ fv, oV, oJ qv, oV, oU, oU, oU, oU, oU, oU, oU, oU, oU, oU, oU, oU, oU, oU, oU, oU, oU, oU] [] _
      refine XS.lconst X0.here hx rfl (hb hby at_165) ?_
      show own_S p e below s₁ m 166 #[oI p0, oI p1, oI p2, oI p3, oI p4, oI k1v, oI k3v, oI jv, oI dlv, oI aev, oJ av, oV, oI px, .val (.int (qe + (3 : Int32))), oI iv, oI mo, oJ lv, oV, oJ tx, oV, oJ fv, oV, oJ qv, oV, oU, oU, oU, oU, oU, oU, oU, oU, oU, oU, oU, oU, oU, oU, oU, oU, oU, oU] [(.long (1 : Int64))] _
      refine XS.iload X0.here hx rfl (hb hby at_166) rfl ?_
      show own_S p e below s₁ m 168 #[oI p0, oI p1, oI p2, oI p3, oI p4, oI k1v, oI k3v, oI jv, oI dlv, oI aev, oJ av, oV, oI px, .val (.int (qe + (3 : Int32))), oI iv, oI mo, oJ lv, oV, oJ tx, oV, oJ fv, oV, oJ qv, oV, oU, oU, oU, oU, oU, oU, oU, oU, oU, oU, oU, oU, oU, oU, oU, oU, oU, oU] [(.int (qe + (3 : Int32))), (.long (1 : Int64))] _
      refine XS.lshl X0.here hx rfl (hb hby at_168) rfl ?_
      show own_S p e below s₁ m 169 #[oI p0, oI p1, oI p2, oI p3, oI p4, oI k1v, oI k3v, oI jv, oI dlv, oI aev, oJ av, oV, oI px, .val (.int (qe + (3 : Int32))), oI iv, oI mo, oJ lv, oV, oJ tx, oV, oJ fv, oV, oJ qv, oV, oU, oU, oU, oU, oU, oU, oU, oU, oU, oU, oU, oU, oU, oU, oU, oU, oU, oU] [(.long ((1 : Int64) <<< ((qe + (3 : Int32)) &&& 0x3f).toInt64))] _
      refine reJ (hqw.symm : ((1 : Int64) <<< ((qe + (3 : Int32)) &&& 0x3f).toInt64) = qw) ?_
      show own_S p e below s₁ m 169 #[oI p0, oI p1, oI p2, oI p3, oI p4, oI k1v, oI k3v, oI jv, oI dlv, oI aev, oJ av, oV, oI px, .val (.int (qe + (3 : Int32))), oI iv, oI mo, oJ lv, oV, oJ tx, oV, oJ fv, oV, oJ qv, oV, oU, oU, oU, oU, oU, oU, oU, oU, oU, oU, oU, oU, oU, oU, oU, oU, oU, oU] [(.long qw)] _
      refine XS.lstore X0.here hx rfl (hb hby at_169) rfl (l' := #[.val (.int p0), .val (.int p1), .val (.int p2), .val (.int p3), .val (.int p4), .val (.int k1v), .val (.int k3v), .val (.int jv), .val (.int dlv), .val (.int aev), .val (.long av), .second, .val (.int px), .val (.int (qe + (3 : Int32))), .val (.int iv), .val (.int mo), .val (.long lv), .second, .val (.long tx), .second, .val (.long fv), .second, .val (.long qw), .second, .unset, .unset, .unset, .unset, .unset, .unset, .unset, .unset, .unset, .unset, .unset, .unset, .unset, .unset, .unset, .unset, .unset, .unset]) rfl ?_
      rw [(hex.trans (if_neg hQ) : ex = (qe + (3 : Int32)))] at kt
      rw [(hqx.trans (if_neg hQ) : qx = qw)] at kt
      exact kt
  obtain ⟨T105, h105, X105, e105, E105, A105, D105, -, st105⟩ := newO X0 hx hZ hown (own_w hw 3 rfl) (own_w hw 4 rfl) (own_w hw 5 rfl) e0 (g := (mkF m 188 #[.val (.int p0), .val (.int p1), .val (.int p2), .val (.int p3), .val (.int p4), .val (.int k1v), .val (.int k3v), .val (.int jv), .val (.int dlv), .val (.int aev), .val (.long av), .second, .val (.int px), .val (.int ex), .val (.int iv), .val (.int mo), .val (.long lv), .second, .val (.long tx), .second, .val (.long fv), .second, .val (.long qx), .second, .val (.long gv), .second, .val (.double (FP.ddiv (FP.l2d fv) (4629700416936869888 : UInt64))), .second, .unset, .unset, .unset, .unset, .unset, .unset, .unset, .unset, .unset, .unset, .unset, .unset, .unset, .unset] [])) rfl (hb hby at_188) (by decide) (by decide)
  obtain ⟨b105, g105⟩ : ∃ z, z = h0.size := ⟨_, rfl⟩
  rw [← g105] at A105 D105 st105
  have g_b105 : n0 ≤ b105 := Nat.le_trans Z0 (Nat.le_of_eq g105.symm)
  have ZZ107 : n0 ≤ h105.size := Nat.le_trans Z0 E105.1
  have F_k1_b105 : Fld Z h105 b105 "com/example/buurt/buurt/model/Bm25" "k1" "D" (.double 0) := D105 (Or.inr (own_w hw 63 rfl)) (ty := .double) (by decide)
  have F_b_b105 : Fld Z h105 b105 "com/example/buurt/buurt/model/Bm25" "b" "D" (.double 0) := D105 (Or.inr (own_w hw 65 rfl)) (ty := .double) (by decide)
  have F_k3_b105 : Fld Z h105 b105 "com/example/buurt/buurt/model/Bm25" "k3" "D" (.double 0) := D105 (Or.inr (own_w hw 67 rfl)) (ty := .double) (by decide)
  obtain ⟨_, _, ⟨T108, L108, k108, n108⟩, -, Xr108, hSr108, hgr108, ⟨Lc108, hQ108, l108, y108, z108⟩, st108⟩ := X105.specialBackS hx (y := (⟨"com/example/buurt/buurt/model/Bm25", "<init>", "(DDD)V"⟩ : MethodName)) rfl hown (mvT hZ (own_w hw 7 rfl)) (mvT hZ (own_w hw 8 rfl)) (mvT hZ (own_w hw 9 rfl)) (by decide) (backOfS (W := 1) (rmm1 l Z a0 hw [] b105 (FP.i2d k1v) (FP.ddiv (FP.i2d jv) (4616189618054758400 : UInt64)) (FP.i2d k3v) (.double 0) (.double 0) (.double 0) h105 n0 ZZ107 F_k1_b105 F_b_b105 F_k3_b105 A105 g_b105 hk10 hb0 hk30 hk1m hb1 hk3m) hZ (own_w hw 9 rfl) (own_w hw 5 rfl) (by decide) (by decide)) (g := (mkF m 205 #[.val (.int p0), .val (.int p1), .val (.int p2), .val (.int p3), .val (.int p4), .val (.int k1v), .val (.int k3v), .val (.int jv), .val (.int dlv), .val (.int aev), .val (.long av), .second, .val (.int px), .val (.int ex), .val (.int iv), .val (.int mo), .val (.long lv), .second, .val (.long tx), .second, .val (.long fv), .second, .val (.long qx), .second, .val (.long gv), .second, .val (.double (FP.ddiv (FP.l2d fv) (4629700416936869888 : UInt64))), .second, .unset, .unset, .unset, .unset, .unset, .unset, .unset, .unset, .unset, .unset, .unset, .unset, .unset, .unset] [(.double (FP.i2d k3v)), (.double (FP.ddiv (FP.i2d jv) (4616189618054758400 : UInt64))), (.double (FP.i2d k1v)), (.ref b105), (.ref b105)])) rfl (by rw [hml]; rfl) (Steps.refl _) (a := b105) (argsL := [(.double (FP.i2d k1v)), (.double (FP.ddiv (FP.i2d jv) (4616189618054758400 : UInt64))), (.double (FP.i2d k3v))]) (rest := [(.ref b105)]) (lenOf pd5 rfl) rfl (by show 2 * 0 + _ ≤ _; exact Nat.le_of_eq rfl) (hb hby at_205) (fun _ _ => ⟨rfl, e105, (by decide : 1 + 15 ≤ _), (by decide : 3 + 259 ≤ _)⟩)
  dsimp only [Pt.U, Pt.locs, Pt.cells, Pt.slots] at Xr108 l108 y108 z108 st108 hQ108 hSr108 hgr108
  subst l108 y108 z108
  obtain ⟨X108, hS108⟩ := Stand.againW Xr108 hS0 hSr108 (Nat.le_trans (Nat.zero_le _) hgr108)
  have hZ108 : Z.Warmed39 (s.setVm T108.vm).vm := State.Warmed39.trans (t := s.setVm s.vm) hZ hSr108.1
  have how108 : (s.setVm T108.vm).vm.findClass "com/example/buurt/buurt/model/Bm25WeightPinLaw" = some m.cls := by rw [show (s.setVm T108.vm).vm = T108.vm from rfl, hSr108.1.alike.findClass]; exact hown
  obtain ⟨rfl, Nq108, P108_0, P108_1, P108_2, P108_3, P108_4⟩ := hQ108
  have N108 := Fr.app N0 Nq108
  have ZZ109 : n0 ≤ T108.heap.size := Nat.le_trans ZZ107 P108_0.1
  have pre110 : ∀ t, Steps p.tables e below (T108.setTop (mkF m 213 #[.val (.int p0), .val (.int p1), .val (.int p2), .val (.int p3), .val (.int p4), .val (.int k1v), .val (.int k3v), .val (.int jv), .val (.int dlv), .val (.int aev), .val (.long av), .second, .val (.int px), .val (.int ex), .val (.int iv), .val (.int mo), .val (.long lv), .second, .val (.long tx), .second, .val (.long fv), .second, .val (.long qx), .second, .val (.long gv), .second, .val (.double (FP.ddiv (FP.l2d fv) (4629700416936869888 : UInt64))), .second, .val (.ref b105), .unset, .unset, .unset, .unset, .unset, .unset, .unset, .unset, .unset, .unset, .unset, .unset, .unset] [(.int 1), (.int mo)])) t → Steps p.tables e below (s₁.setTop (mkF m 0 #[.val (.int p0), .val (.int p1), .val (.int p2), .val (.int p3), .val (.int p4), .unset, .unset, .unset, .unset, .unset, .unset, .unset, .unset, .unset, .unset, .unset, .unset, .unset, .unset, .unset, .unset, .unset, .unset, .unset, .unset, .unset, .unset, .unset, .unset, .unset, .unset, .unset, .unset, .unset, .unset, .unset, .unset, .unset, .unset, .unset, .unset, .unset] [])) t := by
    intro t kt
    refine pre104 _ ?_
    show own_S p e below s₁ m 171 #[oI p0, oI p1, oI p2, oI p3, oI p4, oI k1v, oI k3v, oI jv, oI dlv, oI aev, oJ av, oV, oI px, oI ex, oI iv, oI mo, oJ lv, oV, oJ tx, oV, oJ fv, oV, oJ qx, oV, oU, oU, oU, oU, oU, oU, oU, oU, oU, oU, oU, oU, oU, oU, oU, oU, oU, oU] [] _
    refine XS.lload X0.here hx rfl (hb hby at_171) rfl ?_
    show own_S p e below s₁ m 173 #[oI p0, oI p1, oI p2, oI p3, oI p4, oI k1v, oI k3v, oI jv, oI dlv, oI aev, oJ av, oV, oI px, oI ex, oI iv, oI mo, oJ lv, oV, oJ tx, oV, oJ fv, oV, oJ qx, oV, oU, oU, oU, oU, oU, oU, oU, oU, oU, oU, oU, oU, oU, oU, oU, oU, oU, oU] [(.long qx)] _
    refine XS.iload X0.here hx rfl (hb hby at_173) rfl ?_
    show own_S p e below s₁ m 175 #[oI p0, oI p1, oI p2, oI p3, oI p4, oI k1v, oI k3v, oI jv, oI dlv, oI aev, oJ av, oV, oI px, oI ex, oI iv, oI mo, oJ lv, oV, oJ tx, oV, oJ fv, oV, oJ qx, oV, oU, oU, oU, oU, oU, oU, oU, oU, oU, oU, oU, oU, oU, oU, oU, oU, oU, oU] [(.int k3v), (.long qx)] _
    refine XS.i2l X0.here hx rfl (hb hby at_175) rfl ?_
    show own_S p e below s₁ m 176 #[oI p0, oI p1, oI p2, oI p3, oI p4, oI k1v, oI k3v, oI jv, oI dlv, oI aev, oJ av, oV, oI px, oI ex, oI iv, oI mo, oJ lv, oV, oJ tx, oV, oJ fv, oV, oJ qx, oV, oU, oU, oU, oU, oU, oU, oU, oU, oU, oU, oU, oU, oU, oU, oU, oU, oU, oU] [(.long (k3v.toInt64)), (.long qx)] _
    refine XS.lsub X0.here hx rfl (hb hby at_176) rfl ?_
    show own_S p e below s₁ m 177 #[oI p0, oI p1, oI p2, oI p3, oI p4, oI k1v, oI k3v, oI jv, oI dlv, oI aev, oJ av, oV, oI px, oI ex, oI iv, oI mo, oJ lv, oV, oJ tx, oV, oJ fv, oV, oJ qx, oV, oU, oU, oU, oU, oU, oU, oU, oU, oU, oU, oU, oU, oU, oU, oU, oU, oU, oU] [(.long (qx - (k3v.toInt64)))] _
    refine reJ (hgv.symm : (qx - (k3v.toInt64)) = gv) ?_
    show own_S p e below s₁ m 177 #[oI p0, oI p1, oI p2, oI p3, oI p4, oI k1v, oI k3v, oI jv, oI dlv, oI aev, oJ av, oV, oI px, oI ex, oI iv, oI mo, oJ lv, oV, oJ tx, oV, oJ fv, oV, oJ qx, oV, oU, oU, oU, oU, oU, oU, oU, oU, oU, oU, oU, oU, oU, oU, oU, oU, oU, oU] [(.long gv)] _
    refine XS.lstore X0.here hx rfl (hb hby at_177) rfl (l' := #[.val (.int p0), .val (.int p1), .val (.int p2), .val (.int p3), .val (.int p4), .val (.int k1v), .val (.int k3v), .val (.int jv), .val (.int dlv), .val (.int aev), .val (.long av), .second, .val (.int px), .val (.int ex), .val (.int iv), .val (.int mo), .val (.long lv), .second, .val (.long tx), .second, .val (.long fv), .second, .val (.long qx), .second, .val (.long gv), .second, .unset, .unset, .unset, .unset, .unset, .unset, .unset, .unset, .unset, .unset, .unset, .unset, .unset, .unset, .unset, .unset]) rfl ?_
    show own_S p e below s₁ m 179 #[oI p0, oI p1, oI p2, oI p3, oI p4, oI k1v, oI k3v, oI jv, oI dlv, oI aev, oJ av, oV, oI px, oI ex, oI iv, oI mo, oJ lv, oV, oJ tx, oV, oJ fv, oV, oJ qx, oV, oJ gv, oV, oU, oU, oU, oU, oU, oU, oU, oU, oU, oU, oU, oU, oU, oU, oU, oU] [] _
    refine XS.lload X0.here hx rfl (hb hby at_179) rfl ?_
    show own_S p e below s₁ m 181 #[oI p0, oI p1, oI p2, oI p3, oI p4, oI k1v, oI k3v, oI jv, oI dlv, oI aev, oJ av, oV, oI px, oI ex, oI iv, oI mo, oJ lv, oV, oJ tx, oV, oJ fv, oV, oJ qx, oV, oJ gv, oV, oU, oU, oU, oU, oU, oU, oU, oU, oU, oU, oU, oU, oU, oU, oU, oU] [(.long fv)] _
    refine XS.l2dS X0.here hx rfl (v := (FP.l2d fv)) (hb hby at_181) rfl rfl ?_
    show own_S p e below s₁ m 182 #[oI p0, oI p1, oI p2, oI p3, oI p4, oI k1v, oI k3v, oI jv, oI dlv, oI aev, oJ av, oV, oI px, oI ex, oI iv, oI mo, oJ lv, oV, oJ tx, oV, oJ fv, oV, oJ qx, oV, oJ gv, oV, oU, oU, oU, oU, oU, oU, oU, oU, oU, oU, oU, oU, oU, oU, oU, oU] [(.double (FP.l2d fv))] _
    refine X0.ldc2DoubleC hx hown (mvT hZ (own_w hw 2 rfl)) (g := (mkF m 182 #[.val (.int p0), .val (.int p1), .val (.int p2), .val (.int p3), .val (.int p4), .val (.int k1v), .val (.int k3v), .val (.int jv), .val (.int dlv), .val (.int aev), .val (.long av), .second, .val (.int px), .val (.int ex), .val (.int iv), .val (.int mo), .val (.long lv), .second, .val (.long tx), .second, .val (.long fv), .second, .val (.long qx), .second, .val (.long gv), .second, .unset, .unset, .unset, .unset, .unset, .unset, .unset, .unset, .unset, .unset, .unset, .unset, .unset, .unset, .unset, .unset] [(.double (FP.l2d fv))])) rfl (hb hby at_182) _ ?_
    show own_S p e below s₁ m 185 #[oI p0, oI p1, oI p2, oI p3, oI p4, oI k1v, oI k3v, oI jv, oI dlv, oI aev, oJ av, oV, oI px, oI ex, oI iv, oI mo, oJ lv, oV, oJ tx, oV, oJ fv, oV, oJ qx, oV, oJ gv, oV, oU, oU, oU, oU, oU, oU, oU, oU, oU, oU, oU, oU, oU, oU, oU, oU] [(.double 4629700416936869888), (.double (FP.l2d fv))] _
    refine XS.ddivS X0.here hx rfl (v := (FP.ddiv (FP.l2d fv) (4629700416936869888 : UInt64))) (hb hby at_185) rfl yf rfl ?_
    show own_S p e below s₁ m 186 #[oI p0, oI p1, oI p2, oI p3, oI p4, oI k1v, oI k3v, oI jv, oI dlv, oI aev, oJ av, oV, oI px, oI ex, oI iv, oI mo, oJ lv, oV, oJ tx, oV, oJ fv, oV, oJ qx, oV, oJ gv, oV, oU, oU, oU, oU, oU, oU, oU, oU, oU, oU, oU, oU, oU, oU, oU, oU] [(.double (FP.ddiv (FP.l2d fv) (4629700416936869888 : UInt64)))] _
    refine XS.dstore X0.here hx rfl (hb hby at_186) rfl (l' := #[.val (.int p0), .val (.int p1), .val (.int p2), .val (.int p3), .val (.int p4), .val (.int k1v), .val (.int k3v), .val (.int jv), .val (.int dlv), .val (.int aev), .val (.long av), .second, .val (.int px), .val (.int ex), .val (.int iv), .val (.int mo), .val (.long lv), .second, .val (.long tx), .second, .val (.long fv), .second, .val (.long qx), .second, .val (.long gv), .second, .val (.double (FP.ddiv (FP.l2d fv) (4629700416936869888 : UInt64))), .second, .unset, .unset, .unset, .unset, .unset, .unset, .unset, .unset, .unset, .unset, .unset, .unset, .unset, .unset]) rfl ?_
    show own_S p e below s₁ m 188 #[oI p0, oI p1, oI p2, oI p3, oI p4, oI k1v, oI k3v, oI jv, oI dlv, oI aev, oJ av, oV, oI px, oI ex, oI iv, oI mo, oJ lv, oV, oJ tx, oV, oJ fv, oV, oJ qx, oV, oJ gv, oV, .val (.double (FP.ddiv (FP.l2d fv) (4629700416936869888 : UInt64))), oV, oU, oU, oU, oU, oU, oU, oU, oU, oU, oU, oU, oU, oU, oU] [] _
    refine st105 _ ?_
    show own_S p e below T105 m 191 #[oI p0, oI p1, oI p2, oI p3, oI p4, oI k1v, oI k3v, oI jv, oI dlv, oI aev, oJ av, oV, oI px, oI ex, oI iv, oI mo, oJ lv, oV, oJ tx, oV, oJ fv, oV, oJ qx, oV, oJ gv, oV, .val (.double (FP.ddiv (FP.l2d fv) (4629700416936869888 : UInt64))), oV, oU, oU, oU, oU, oU, oU, oU, oU, oU, oU, oU, oU, oU, oU] [(.ref b105)] _
    refine XS.dup X105.here hx rfl (hb hby at_191) rfl rfl ?_
    show own_S p e below T105 m 192 #[oI p0, oI p1, oI p2, oI p3, oI p4, oI k1v, oI k3v, oI jv, oI dlv, oI aev, oJ av, oV, oI px, oI ex, oI iv, oI mo, oJ lv, oV, oJ tx, oV, oJ fv, oV, oJ qx, oV, oJ gv, oV, .val (.double (FP.ddiv (FP.l2d fv) (4629700416936869888 : UInt64))), oV, oU, oU, oU, oU, oU, oU, oU, oU, oU, oU, oU, oU, oU, oU] [(.ref b105), (.ref b105)] _
    refine XS.iload X105.here hx rfl (hb hby at_192) rfl ?_
    show own_S p e below T105 m 194 #[oI p0, oI p1, oI p2, oI p3, oI p4, oI k1v, oI k3v, oI jv, oI dlv, oI aev, oJ av, oV, oI px, oI ex, oI iv, oI mo, oJ lv, oV, oJ tx, oV, oJ fv, oV, oJ qx, oV, oJ gv, oV, .val (.double (FP.ddiv (FP.l2d fv) (4629700416936869888 : UInt64))), oV, oU, oU, oU, oU, oU, oU, oU, oU, oU, oU, oU, oU, oU, oU] [(.int k1v), (.ref b105), (.ref b105)] _
    refine XS.i2dS X105.here hx rfl (v := (FP.i2d k1v)) (hb hby at_194) rfl rfl ?_
    show own_S p e below T105 m 195 #[oI p0, oI p1, oI p2, oI p3, oI p4, oI k1v, oI k3v, oI jv, oI dlv, oI aev, oJ av, oV, oI px, oI ex, oI iv, oI mo, oJ lv, oV, oJ tx, oV, oJ fv, oV, oJ qx, oV, oJ gv, oV, .val (.double (FP.ddiv (FP.l2d fv) (4629700416936869888 : UInt64))), oV, oU, oU, oU, oU, oU, oU, oU, oU, oU, oU, oU, oU, oU, oU] [(.double (FP.i2d k1v)), (.ref b105), (.ref b105)] _
    refine XS.iload X105.here hx rfl (hb hby at_195) rfl ?_
    show own_S p e below T105 m 197 #[oI p0, oI p1, oI p2, oI p3, oI p4, oI k1v, oI k3v, oI jv, oI dlv, oI aev, oJ av, oV, oI px, oI ex, oI iv, oI mo, oJ lv, oV, oJ tx, oV, oJ fv, oV, oJ qx, oV, oJ gv, oV, .val (.double (FP.ddiv (FP.l2d fv) (4629700416936869888 : UInt64))), oV, oU, oU, oU, oU, oU, oU, oU, oU, oU, oU, oU, oU, oU, oU] [(.int jv), (.double (FP.i2d k1v)), (.ref b105), (.ref b105)] _
    refine XS.i2dS X105.here hx rfl (v := (FP.i2d jv)) (hb hby at_197) rfl rfl ?_
    show own_S p e below T105 m 198 #[oI p0, oI p1, oI p2, oI p3, oI p4, oI k1v, oI k3v, oI jv, oI dlv, oI aev, oJ av, oV, oI px, oI ex, oI iv, oI mo, oJ lv, oV, oJ tx, oV, oJ fv, oV, oJ qx, oV, oJ gv, oV, .val (.double (FP.ddiv (FP.l2d fv) (4629700416936869888 : UInt64))), oV, oU, oU, oU, oU, oU, oU, oU, oU, oU, oU, oU, oU, oU, oU] [(.double (FP.i2d jv)), (.double (FP.i2d k1v)), (.ref b105), (.ref b105)] _
    refine X105.ldc2DoubleC hx hown (mvT hZ (own_w hw 6 rfl)) (g := (mkF m 198 #[.val (.int p0), .val (.int p1), .val (.int p2), .val (.int p3), .val (.int p4), .val (.int k1v), .val (.int k3v), .val (.int jv), .val (.int dlv), .val (.int aev), .val (.long av), .second, .val (.int px), .val (.int ex), .val (.int iv), .val (.int mo), .val (.long lv), .second, .val (.long tx), .second, .val (.long fv), .second, .val (.long qx), .second, .val (.long gv), .second, .val (.double (FP.ddiv (FP.l2d fv) (4629700416936869888 : UInt64))), .second, .unset, .unset, .unset, .unset, .unset, .unset, .unset, .unset, .unset, .unset, .unset, .unset, .unset, .unset] [(.double (FP.i2d jv)), (.double (FP.i2d k1v)), (.ref b105), (.ref b105)])) rfl (hb hby at_198) _ ?_
    show own_S p e below T105 m 201 #[oI p0, oI p1, oI p2, oI p3, oI p4, oI k1v, oI k3v, oI jv, oI dlv, oI aev, oJ av, oV, oI px, oI ex, oI iv, oI mo, oJ lv, oV, oJ tx, oV, oJ fv, oV, oJ qx, oV, oJ gv, oV, .val (.double (FP.ddiv (FP.l2d fv) (4629700416936869888 : UInt64))), oV, oU, oU, oU, oU, oU, oU, oU, oU, oU, oU, oU, oU, oU, oU] [(.double 4616189618054758400), (.double (FP.i2d jv)), (.double (FP.i2d k1v)), (.ref b105), (.ref b105)] _
    refine XS.ddivS X105.here hx rfl (v := (FP.ddiv (FP.i2d jv) (4616189618054758400 : UInt64))) (hb hby at_201) rfl yb rfl ?_
    show own_S p e below T105 m 202 #[oI p0, oI p1, oI p2, oI p3, oI p4, oI k1v, oI k3v, oI jv, oI dlv, oI aev, oJ av, oV, oI px, oI ex, oI iv, oI mo, oJ lv, oV, oJ tx, oV, oJ fv, oV, oJ qx, oV, oJ gv, oV, .val (.double (FP.ddiv (FP.l2d fv) (4629700416936869888 : UInt64))), oV, oU, oU, oU, oU, oU, oU, oU, oU, oU, oU, oU, oU, oU, oU] [(.double (FP.ddiv (FP.i2d jv) (4616189618054758400 : UInt64))), (.double (FP.i2d k1v)), (.ref b105), (.ref b105)] _
    refine XS.iload X105.here hx rfl (hb hby at_202) rfl ?_
    show own_S p e below T105 m 204 #[oI p0, oI p1, oI p2, oI p3, oI p4, oI k1v, oI k3v, oI jv, oI dlv, oI aev, oJ av, oV, oI px, oI ex, oI iv, oI mo, oJ lv, oV, oJ tx, oV, oJ fv, oV, oJ qx, oV, oJ gv, oV, .val (.double (FP.ddiv (FP.l2d fv) (4629700416936869888 : UInt64))), oV, oU, oU, oU, oU, oU, oU, oU, oU, oU, oU, oU, oU, oU, oU] [(.int k3v), (.double (FP.ddiv (FP.i2d jv) (4616189618054758400 : UInt64))), (.double (FP.i2d k1v)), (.ref b105), (.ref b105)] _
    refine XS.i2dS X105.here hx rfl (v := (FP.i2d k3v)) (hb hby at_204) rfl rfl ?_
    show own_S p e below T105 m 205 #[oI p0, oI p1, oI p2, oI p3, oI p4, oI k1v, oI k3v, oI jv, oI dlv, oI aev, oJ av, oV, oI px, oI ex, oI iv, oI mo, oJ lv, oV, oJ tx, oV, oJ fv, oV, oJ qx, oV, oJ gv, oV, .val (.double (FP.ddiv (FP.l2d fv) (4629700416936869888 : UInt64))), oV, oU, oU, oU, oU, oU, oU, oU, oU, oU, oU, oU, oU, oU, oU] [(.double (FP.i2d k3v)), (.double (FP.ddiv (FP.i2d jv) (4616189618054758400 : UInt64))), (.double (FP.i2d k1v)), (.ref b105), (.ref b105)] _
    refine st108.trans ?_
    show own_S p e below T108 m 208 #[oI p0, oI p1, oI p2, oI p3, oI p4, oI k1v, oI k3v, oI jv, oI dlv, oI aev, oJ av, oV, oI px, oI ex, oI iv, oI mo, oJ lv, oV, oJ tx, oV, oJ fv, oV, oJ qx, oV, oJ gv, oV, .val (.double (FP.ddiv (FP.l2d fv) (4629700416936869888 : UInt64))), oV, oU, oU, oU, oU, oU, oU, oU, oU, oU, oU, oU, oU, oU, oU] [(.ref b105)] _
    refine XS.astore X108.here hx rfl (hb hby at_208) rfl rfl (l' := #[.val (.int p0), .val (.int p1), .val (.int p2), .val (.int p3), .val (.int p4), .val (.int k1v), .val (.int k3v), .val (.int jv), .val (.int dlv), .val (.int aev), .val (.long av), .second, .val (.int px), .val (.int ex), .val (.int iv), .val (.int mo), .val (.long lv), .second, .val (.long tx), .second, .val (.long fv), .second, .val (.long qx), .second, .val (.long gv), .second, .val (.double (FP.ddiv (FP.l2d fv) (4629700416936869888 : UInt64))), .second, .val (.ref b105), .unset, .unset, .unset, .unset, .unset, .unset, .unset, .unset, .unset, .unset, .unset, .unset, .unset]) rfl ?_
    show own_S p e below T108 m 210 #[oI p0, oI p1, oI p2, oI p3, oI p4, oI k1v, oI k3v, oI jv, oI dlv, oI aev, oJ av, oV, oI px, oI ex, oI iv, oI mo, oJ lv, oV, oJ tx, oV, oJ fv, oV, oJ qx, oV, oJ gv, oV, .val (.double (FP.ddiv (FP.l2d fv) (4629700416936869888 : UInt64))), oV, oR b105, oU, oU, oU, oU, oU, oU, oU, oU, oU, oU, oU, oU, oU] [] _
    refine XS.iload X108.here hx rfl (hb hby at_210) rfl ?_
    show own_S p e below T108 m 212 #[oI p0, oI p1, oI p2, oI p3, oI p4, oI k1v, oI k3v, oI jv, oI dlv, oI aev, oJ av, oV, oI px, oI ex, oI iv, oI mo, oJ lv, oV, oJ tx, oV, oJ fv, oV, oJ qx, oV, oJ gv, oV, .val (.double (FP.ddiv (FP.l2d fv) (4629700416936869888 : UInt64))), oV, oR b105, oU, oU, oU, oU, oU, oU, oU, oU, oU, oU, oU, oU, oU] [(.int mo)] _
    refine XS.iconst X108.here hx rfl (hb hby at_212) ?_
    exact kt
  by_cases hm1 : mo = (1 : Int32)
  · skip
    have pre111 : ∀ t, Steps p.tables e below (T108.setTop (mkF m 267 #[.val (.int p0), .val (.int p1), .val (.int p2), .val (.int p3), .val (.int p4), .val (.int k1v), .val (.int k3v), .val (.int jv), .val (.int dlv), .val (.int aev), .val (.long av), .second, .val (.int px), .val (.int ex), .val (.int iv), .val (.int mo), .val (.long lv), .second, .val (.long tx), .second, .val (.long fv), .second, .val (.long qx), .second, .val (.long gv), .second, .val (.double (FP.ddiv (FP.l2d fv) (4629700416936869888 : UInt64))), .second, .val (.ref b105), .val (.int 1), .val (.double 0), .second, .val (.double (FP.l2d gv)), .second, .unset, .unset, .unset, .unset, .unset, .unset, .unset, .unset] [(.int (p4 &&& (4 : Int32)))])) t → Steps p.tables e below (s₁.setTop (mkF m 0 #[.val (.int p0), .val (.int p1), .val (.int p2), .val (.int p3), .val (.int p4), .unset, .unset, .unset, .unset, .unset, .unset, .unset, .unset, .unset, .unset, .unset, .unset, .unset, .unset, .unset, .unset, .unset, .unset, .unset, .unset, .unset, .unset, .unset, .unset, .unset, .unset, .unset, .unset, .unset, .unset, .unset, .unset, .unset, .unset, .unset, .unset, .unset] [])) t := by
      intro t kt
      refine pre110 _ ?_
      show own_S p e below T108 m 213 #[oI p0, oI p1, oI p2, oI p3, oI p4, oI k1v, oI k3v, oI jv, oI dlv, oI aev, oJ av, oV, oI px, oI ex, oI iv, oI mo, oJ lv, oV, oJ tx, oV, oJ fv, oV, oJ qx, oV, oJ gv, oV, .val (.double (FP.ddiv (FP.l2d fv) (4629700416936869888 : UInt64))), oV, oR b105, oU, oU, oU, oU, oU, oU, oU, oU, oU, oU, oU, oU, oU] [(.int 1), (.int mo)] _
      refine XS.icmpYes X108.here hx rfl (pc0 := 213) (pc' := 222) rfl (hb hby at_213) rfl (teq (hm1 : mo = (1 : Int32))).1 (by decide) (by decide) ?_
      show own_S p e below T108 m 222 #[oI p0, oI p1, oI p2, oI p3, oI p4, oI k1v, oI k3v, oI jv, oI dlv, oI aev, oJ av, oV, oI px, oI ex, oI iv, oI mo, oJ lv, oV, oJ tx, oV, oJ fv, oV, oJ qx, oV, oJ gv, oV, .val (.double (FP.ddiv (FP.l2d fv) (4629700416936869888 : UInt64))), oV, oR b105, oU, oU, oU, oU, oU, oU, oU, oU, oU, oU, oU, oU, oU] [] _
      refine XS.iconst X108.here hx rfl (hb hby at_222) ?_
      show own_S p e below T108 m 223 #[oI p0, oI p1, oI p2, oI p3, oI p4, oI k1v, oI k3v, oI jv, oI dlv, oI aev, oJ av, oV, oI px, oI ex, oI iv, oI mo, oJ lv, oV, oJ tx, oV, oJ fv, oV, oJ qx, oV, oJ gv, oV, .val (.double (FP.ddiv (FP.l2d fv) (4629700416936869888 : UInt64))), oV, oR b105, oU, oU, oU, oU, oU, oU, oU, oU, oU, oU, oU, oU, oU] [(.int 1)] _
      refine XS.goto X108.here hx rfl (pc0 := 223) (pc' := 227) rfl (hb hby at_223) (by decide) (by decide) ?_
      show own_S p e below T108 m 227 #[oI p0, oI p1, oI p2, oI p3, oI p4, oI k1v, oI k3v, oI jv, oI dlv, oI aev, oJ av, oV, oI px, oI ex, oI iv, oI mo, oJ lv, oV, oJ tx, oV, oJ fv, oV, oJ qx, oV, oJ gv, oV, .val (.double (FP.ddiv (FP.l2d fv) (4629700416936869888 : UInt64))), oV, oR b105, oU, oU, oU, oU, oU, oU, oU, oU, oU, oU, oU, oU, oU] [(.int 1)] _
      refine XS.istore X108.here hx rfl (hb hby at_227) rfl (l' := #[.val (.int p0), .val (.int p1), .val (.int p2), .val (.int p3), .val (.int p4), .val (.int k1v), .val (.int k3v), .val (.int jv), .val (.int dlv), .val (.int aev), .val (.long av), .second, .val (.int px), .val (.int ex), .val (.int iv), .val (.int mo), .val (.long lv), .second, .val (.long tx), .second, .val (.long fv), .second, .val (.long qx), .second, .val (.long gv), .second, .val (.double (FP.ddiv (FP.l2d fv) (4629700416936869888 : UInt64))), .second, .val (.ref b105), .val (.int 1), .unset, .unset, .unset, .unset, .unset, .unset, .unset, .unset, .unset, .unset, .unset, .unset]) rfl ?_
      show own_S p e below T108 m 229 #[oI p0, oI p1, oI p2, oI p3, oI p4, oI k1v, oI k3v, oI jv, oI dlv, oI aev, oJ av, oV, oI px, oI ex, oI iv, oI mo, oJ lv, oV, oJ tx, oV, oJ fv, oV, oJ qx, oV, oJ gv, oV, .val (.double (FP.ddiv (FP.l2d fv) (4629700416936869888 : UInt64))), oV, oR b105, oI 1, oU, oU, oU, oU, oU, oU, oU, oU, oU, oU, oU, oU] [] _
      refine XS.iload X108.here hx rfl (hb hby at_229) rfl ?_
      show own_S p e below T108 m 231 #[oI p0, oI p1, oI p2, oI p3, oI p4, oI k1v, oI k3v, oI jv, oI dlv, oI aev, oJ av, oV, oI px, oI ex, oI iv, oI mo, oJ lv, oV, oJ tx, oV, oJ fv, oV, oJ qx, oV, oJ gv, oV, .val (.double (FP.ddiv (FP.l2d fv) (4629700416936869888 : UInt64))), oV, oR b105, oI 1, oU, oU, oU, oU, oU, oU, oU, oU, oU, oU, oU, oU] [(.int mo)] _
      refine XS.iconst X108.here hx rfl (hb hby at_231) ?_
      show own_S p e below T108 m 232 #[oI p0, oI p1, oI p2, oI p3, oI p4, oI k1v, oI k3v, oI jv, oI dlv, oI aev, oJ av, oV, oI px, oI ex, oI iv, oI mo, oJ lv, oV, oJ tx, oV, oJ fv, oV, oJ qx, oV, oJ gv, oV, .val (.double (FP.ddiv (FP.l2d fv) (4629700416936869888 : UInt64))), oV, oR b105, oI 1, oU, oU, oU, oU, oU, oU, oU, oU, oU, oU, oU, oU] [(.int 1), (.int mo)] _
      refine XS.icmpNo X108.here hx rfl (hb hby at_232) rfl (teq (hm1 : mo = (1 : Int32))).2 ?_
      show own_S p e below T108 m 235 #[oI p0, oI p1, oI p2, oI p3, oI p4, oI k1v, oI k3v, oI jv, oI dlv, oI aev, oJ av, oV, oI px, oI ex, oI iv, oI mo, oJ lv, oV, oJ tx, oV, oJ fv, oV, oJ qx, oV, oJ gv, oV, .val (.double (FP.ddiv (FP.l2d fv) (4629700416936869888 : UInt64))), oV, oR b105, oI 1, oU, oU, oU, oU, oU, oU, oU, oU, oU, oU, oU, oU] [] _
      refine XS.dconst0 X108.here hx rfl (v := 0) (hb hby at_235) rfl ?_
      show own_S p e below T108 m 236 #[oI p0, oI p1, oI p2, oI p3, oI p4, oI k1v, oI k3v, oI jv, oI dlv, oI aev, oJ av, oV, oI px, oI ex, oI iv, oI mo, oJ lv, oV, oJ tx, oV, oJ fv, oV, oJ qx, oV, oJ gv, oV, .val (.double (FP.ddiv (FP.l2d fv) (4629700416936869888 : UInt64))), oV, oR b105, oI 1, oU, oU, oU, oU, oU, oU, oU, oU, oU, oU, oU, oU] [(.double 0)] _
      refine XS.goto X108.here hx rfl (pc0 := 236) (pc' := 241) rfl (hb hby at_236) (by decide) (by decide) ?_
      show own_S p e below T108 m 241 #[oI p0, oI p1, oI p2, oI p3, oI p4, oI k1v, oI k3v, oI jv, oI dlv, oI aev, oJ av, oV, oI px, oI ex, oI iv, oI mo, oJ lv, oV, oJ tx, oV, oJ fv, oV, oJ qx, oV, oJ gv, oV, .val (.double (FP.ddiv (FP.l2d fv) (4629700416936869888 : UInt64))), oV, oR b105, oI 1, oU, oU, oU, oU, oU, oU, oU, oU, oU, oU, oU, oU] [(.double 0)] _
      refine XS.dstore X108.here hx rfl (hb hby at_241) rfl (l' := #[.val (.int p0), .val (.int p1), .val (.int p2), .val (.int p3), .val (.int p4), .val (.int k1v), .val (.int k3v), .val (.int jv), .val (.int dlv), .val (.int aev), .val (.long av), .second, .val (.int px), .val (.int ex), .val (.int iv), .val (.int mo), .val (.long lv), .second, .val (.long tx), .second, .val (.long fv), .second, .val (.long qx), .second, .val (.long gv), .second, .val (.double (FP.ddiv (FP.l2d fv) (4629700416936869888 : UInt64))), .second, .val (.ref b105), .val (.int 1), .val (.double 0), .second, .unset, .unset, .unset, .unset, .unset, .unset, .unset, .unset, .unset, .unset]) rfl ?_
      show own_S p e below T108 m 243 #[oI p0, oI p1, oI p2, oI p3, oI p4, oI k1v, oI k3v, oI jv, oI dlv, oI aev, oJ av, oV, oI px, oI ex, oI iv, oI mo, oJ lv, oV, oJ tx, oV, oJ fv, oV, oJ qx, oV, oJ gv, oV, .val (.double (FP.ddiv (FP.l2d fv) (4629700416936869888 : UInt64))), oV, oR b105, oI 1, oD 0, oV, oU, oU, oU, oU, oU, oU, oU, oU, oU, oU] [] _
      refine XS.iload X108.here hx rfl (hb hby at_243) rfl ?_
      show own_S p e below T108 m 245 #[oI p0, oI p1, oI p2, oI p3, oI p4, oI k1v, oI k3v, oI jv, oI dlv, oI aev, oJ av, oV, oI px, oI ex, oI iv, oI mo, oJ lv, oV, oJ tx, oV, oJ fv, oV, oJ qx, oV, oJ gv, oV, .val (.double (FP.ddiv (FP.l2d fv) (4629700416936869888 : UInt64))), oV, oR b105, oI 1, oD 0, oV, oU, oU, oU, oU, oU, oU, oU, oU, oU, oU] [(.int mo)] _
      refine XS.iconst X108.here hx rfl (hb hby at_245) ?_
      show own_S p e below T108 m 246 #[oI p0, oI p1, oI p2, oI p3, oI p4, oI k1v, oI k3v, oI jv, oI dlv, oI aev, oJ av, oV, oI px, oI ex, oI iv, oI mo, oJ lv, oV, oJ tx, oV, oJ fv, oV, oJ qx, oV, oJ gv, oV, .val (.double (FP.ddiv (FP.l2d fv) (4629700416936869888 : UInt64))), oV, oR b105, oI 1, oD 0, oV, oU, oU, oU, oU, oU, oU, oU, oU, oU, oU] [(.int 2), (.int mo)] _
      refine XS.icmpYes X108.here hx rfl (pc0 := 246) (pc' := 253) rfl (hb hby at_246) rfl (feq ((fun q => by rw [hm1] at q; exact absurd q (by decide)) : ¬ (mo = (2 : Int32)))).2 (by decide) (by decide) ?_
      show own_S p e below T108 m 253 #[oI p0, oI p1, oI p2, oI p3, oI p4, oI k1v, oI k3v, oI jv, oI dlv, oI aev, oJ av, oV, oI px, oI ex, oI iv, oI mo, oJ lv, oV, oJ tx, oV, oJ fv, oV, oJ qx, oV, oJ gv, oV, .val (.double (FP.ddiv (FP.l2d fv) (4629700416936869888 : UInt64))), oV, oR b105, oI 1, oD 0, oV, oU, oU, oU, oU, oU, oU, oU, oU, oU, oU] [] _
      refine XS.lload X108.here hx rfl (hb hby at_253) rfl ?_
      show own_S p e below T108 m 255 #[oI p0, oI p1, oI p2, oI p3, oI p4, oI k1v, oI k3v, oI jv, oI dlv, oI aev, oJ av, oV, oI px, oI ex, oI iv, oI mo, oJ lv, oV, oJ tx, oV, oJ fv, oV, oJ qx, oV, oJ gv, oV, .val (.double (FP.ddiv (FP.l2d fv) (4629700416936869888 : UInt64))), oV, oR b105, oI 1, oD 0, oV, oU, oU, oU, oU, oU, oU, oU, oU, oU, oU] [(.long gv)] _
      refine XS.l2dS X108.here hx rfl (v := (FP.l2d gv)) (hb hby at_255) rfl rfl ?_
      show own_S p e below T108 m 256 #[oI p0, oI p1, oI p2, oI p3, oI p4, oI k1v, oI k3v, oI jv, oI dlv, oI aev, oJ av, oV, oI px, oI ex, oI iv, oI mo, oJ lv, oV, oJ tx, oV, oJ fv, oV, oJ qx, oV, oJ gv, oV, .val (.double (FP.ddiv (FP.l2d fv) (4629700416936869888 : UInt64))), oV, oR b105, oI 1, oD 0, oV, oU, oU, oU, oU, oU, oU, oU, oU, oU, oU] [(.double (FP.l2d gv))] _
      refine XS.dstore X108.here hx rfl (hb hby at_256) rfl (l' := #[.val (.int p0), .val (.int p1), .val (.int p2), .val (.int p3), .val (.int p4), .val (.int k1v), .val (.int k3v), .val (.int jv), .val (.int dlv), .val (.int aev), .val (.long av), .second, .val (.int px), .val (.int ex), .val (.int iv), .val (.int mo), .val (.long lv), .second, .val (.long tx), .second, .val (.long fv), .second, .val (.long qx), .second, .val (.long gv), .second, .val (.double (FP.ddiv (FP.l2d fv) (4629700416936869888 : UInt64))), .second, .val (.ref b105), .val (.int 1), .val (.double 0), .second, .val (.double (FP.l2d gv)), .second, .unset, .unset, .unset, .unset, .unset, .unset, .unset, .unset]) rfl ?_
      show own_S p e below T108 m 258 #[oI p0, oI p1, oI p2, oI p3, oI p4, oI k1v, oI k3v, oI jv, oI dlv, oI aev, oJ av, oV, oI px, oI ex, oI iv, oI mo, oJ lv, oV, oJ tx, oV, oJ fv, oV, oJ qx, oV, oJ gv, oV, .val (.double (FP.ddiv (FP.l2d fv) (4629700416936869888 : UInt64))), oV, oR b105, oI 1, oD 0, oV, oD (FP.l2d gv), oV, oU, oU, oU, oU, oU, oU, oU, oU] [] _
      refine XS.iload X108.here hx rfl (hb hby at_258) rfl ?_
      show own_S p e below T108 m 260 #[oI p0, oI p1, oI p2, oI p3, oI p4, oI k1v, oI k3v, oI jv, oI dlv, oI aev, oJ av, oV, oI px, oI ex, oI iv, oI mo, oJ lv, oV, oJ tx, oV, oJ fv, oV, oJ qx, oV, oJ gv, oV, .val (.double (FP.ddiv (FP.l2d fv) (4629700416936869888 : UInt64))), oV, oR b105, oI 1, oD 0, oV, oD (FP.l2d gv), oV, oU, oU, oU, oU, oU, oU, oU, oU] [(.int 1)] _
      refine XS.ifNo X108.here hx rfl (hb hby at_260) rfl ((if0 _ _).trans (feq (by decide : ¬ ((1 : Int32) = (0 : Int32)))).1) ?_
      show own_S p e below T108 m 263 #[oI p0, oI p1, oI p2, oI p3, oI p4, oI k1v, oI k3v, oI jv, oI dlv, oI aev, oJ av, oV, oI px, oI ex, oI iv, oI mo, oJ lv, oV, oJ tx, oV, oJ fv, oV, oJ qx, oV, oJ gv, oV, .val (.double (FP.ddiv (FP.l2d fv) (4629700416936869888 : UInt64))), oV, oR b105, oI 1, oD 0, oV, oD (FP.l2d gv), oV, oU, oU, oU, oU, oU, oU, oU, oU] [] _
      refine XS.iload X108.here hx rfl (hb hby at_263) rfl ?_
      show own_S p e below T108 m 265 #[oI p0, oI p1, oI p2, oI p3, oI p4, oI k1v, oI k3v, oI jv, oI dlv, oI aev, oJ av, oV, oI px, oI ex, oI iv, oI mo, oJ lv, oV, oJ tx, oV, oJ fv, oV, oJ qx, oV, oJ gv, oV, .val (.double (FP.ddiv (FP.l2d fv) (4629700416936869888 : UInt64))), oV, oR b105, oI 1, oD 0, oV, oD (FP.l2d gv), oV, oU, oU, oU, oU, oU, oU, oU, oU] [(.int p4)] _
      refine XS.iconst X108.here hx rfl (hb hby at_265) ?_
      show own_S p e below T108 m 266 #[oI p0, oI p1, oI p2, oI p3, oI p4, oI k1v, oI k3v, oI jv, oI dlv, oI aev, oJ av, oV, oI px, oI ex, oI iv, oI mo, oJ lv, oV, oJ tx, oV, oJ fv, oV, oJ qx, oV, oJ gv, oV, .val (.double (FP.ddiv (FP.l2d fv) (4629700416936869888 : UInt64))), oV, oR b105, oI 1, oD 0, oV, oD (FP.l2d gv), oV, oU, oU, oU, oU, oU, oU, oU, oU] [(.int 4), (.int p4)] _
      refine XS.iand X108.here hx rfl (hb hby at_266) rfl ?_
      exact kt
    by_cases he4 : (p4 &&& (4 : Int32)) = (0 : Int32)
    · skip
      obtain ⟨cq112, kq112, q112a, q112b, q112c⟩ := isOf hZ108 rfl P108_1
      obtain ⟨_, _, ⟨T112, L112, k112, n112⟩, -, X112, ⟨Lc112, hQ112, l112, y112, z112⟩, st112⟩ := X108.virtualBack hx (y := (⟨"com/example/buurt/buurt/model/Bm25", "weight", "(DDDDD)D"⟩ : MethodName)) (z := (⟨"com/example/buurt/buurt/model/Bm25", "weight", "(DDDDD)D"⟩ : MethodName)) how108 (mvT hZ108 (own_w hw 68 rfl)) (mvT hZ108 (own_w hw 69 rfl)) (notFace_of_selects (args := #[]) (mvT hZ108 (own_w hw 71 rfl))) (mvT hZ108 (own_w hw 71 rfl)) (mvT hZ108 (own_w hw 70 rfl)) (by decide) (backOf (W := 0) (rmz1 l Z a0 hw [] b105 (FP.l2d gv) (FP.i2d iv) (FP.i2d dlv) (FP.l2d av) T108.heap n0 ZZ109 ) hZ108 (own_w hw 72 rfl) (own_w hw 5 rfl) (by decide) (by decide)) q112a q112c (g := (mkF m 293 #[.val (.int p0), .val (.int p1), .val (.int p2), .val (.int p3), .val (.int p4), .val (.int k1v), .val (.int k3v), .val (.int jv), .val (.int dlv), .val (.int aev), .val (.long av), .second, .val (.int px), .val (.int ex), .val (.int iv), .val (.int mo), .val (.long lv), .second, .val (.long tx), .second, .val (.long fv), .second, .val (.long qx), .second, .val (.long gv), .second, .val (.double (FP.ddiv (FP.l2d fv) (4629700416936869888 : UInt64))), .second, .val (.ref b105), .val (.int 1), .val (.double 0), .second, .val (.double (FP.l2d gv)), .second, .val (.double (FP.l2d av)), .second, .unset, .unset, .unset, .unset, .unset, .unset] [(.double (FP.l2d av)), (.double (FP.i2d dlv)), (.double (FP.i2d iv)), (.double (FP.l2d gv)), (.double 0), (.ref b105)])) rfl (by rw [hml]; rfl) (Steps.refl _) (argsL := [(.double 0), (.double (FP.l2d gv)), (.double (FP.i2d iv)), (.double (FP.i2d dlv)), (.double (FP.l2d av))]) (rest := []) (lenOf pd6 rfl) rfl (by show 2 * 0 + _ ≤ _; exact Nat.le_of_eq rfl) (hb hby at_293) (fun _ _ => ⟨rfl, rfl, (by decide : 16 + 0 ≤ _), (by decide : 262 + 0 ≤ _)⟩)
      dsimp only [Pt.U, Pt.locs, Pt.cells, Pt.slots] at X112 l112 y112 z112 st112 hQ112
      subst l112 y112 z112
      obtain ⟨rfl, Nq112, P112_0⟩ := hQ112
      have N112 := Fr.app N108 Nq112
      obtain ⟨fs, hr, hrun, hended, hREW⟩ := X112.leaveW hS108 (by rw [P112_0]; exact (Nat.le_refl _)) (v := some (.int 1)) (fun h => by rw [Bd.returns] at h; cases h)
      refine ⟨_, _, pre0 _ (pre111 _ ?_), hrun, hended, _, _, rfl, ?_, hREW.1, hREW.2.1, hREW.2.2.1, hREW.2.2.2.mono (by decide) (by decide)⟩
      · show own_S p e below T108 m 267 #[oI p0, oI p1, oI p2, oI p3, oI p4, oI k1v, oI k3v, oI jv, oI dlv, oI aev, oJ av, oV, oI px, oI ex, oI iv, oI mo, oJ lv, oV, oJ tx, oV, oJ fv, oV, oJ qx, oV, oJ gv, oV, .val (.double (FP.ddiv (FP.l2d fv) (4629700416936869888 : UInt64))), oV, oR b105, oI 1, oD 0, oV, oD (FP.l2d gv), oV, oU, oU, oU, oU, oU, oU, oU, oU] [(.int (p4 &&& (4 : Int32)))] _
        refine XS.ifYes X108.here hx rfl (pc0 := 267) (pc' := 274) rfl (hb hby at_267) rfl ((if0 _ _).trans (teq (he4 : (p4 &&& (4 : Int32)) = (0 : Int32))).1) (by decide) (by decide) ?_
        show own_S p e below T108 m 274 #[oI p0, oI p1, oI p2, oI p3, oI p4, oI k1v, oI k3v, oI jv, oI dlv, oI aev, oJ av, oV, oI px, oI ex, oI iv, oI mo, oJ lv, oV, oJ tx, oV, oJ fv, oV, oJ qx, oV, oJ gv, oV, .val (.double (FP.ddiv (FP.l2d fv) (4629700416936869888 : UInt64))), oV, oR b105, oI 1, oD 0, oV, oD (FP.l2d gv), oV, oU, oU, oU, oU, oU, oU, oU, oU] [] _
        refine XS.lload X108.here hx rfl (hb hby at_274) rfl ?_
        show own_S p e below T108 m 276 #[oI p0, oI p1, oI p2, oI p3, oI p4, oI k1v, oI k3v, oI jv, oI dlv, oI aev, oJ av, oV, oI px, oI ex, oI iv, oI mo, oJ lv, oV, oJ tx, oV, oJ fv, oV, oJ qx, oV, oJ gv, oV, .val (.double (FP.ddiv (FP.l2d fv) (4629700416936869888 : UInt64))), oV, oR b105, oI 1, oD 0, oV, oD (FP.l2d gv), oV, oU, oU, oU, oU, oU, oU, oU, oU] [(.long av)] _
        refine XS.l2dS X108.here hx rfl (v := (FP.l2d av)) (hb hby at_276) rfl rfl ?_
        show own_S p e below T108 m 277 #[oI p0, oI p1, oI p2, oI p3, oI p4, oI k1v, oI k3v, oI jv, oI dlv, oI aev, oJ av, oV, oI px, oI ex, oI iv, oI mo, oJ lv, oV, oJ tx, oV, oJ fv, oV, oJ qx, oV, oJ gv, oV, .val (.double (FP.ddiv (FP.l2d fv) (4629700416936869888 : UInt64))), oV, oR b105, oI 1, oD 0, oV, oD (FP.l2d gv), oV, oU, oU, oU, oU, oU, oU, oU, oU] [(.double (FP.l2d av))] _
        refine XS.dstore X108.here hx rfl (hb hby at_277) rfl (l' := #[.val (.int p0), .val (.int p1), .val (.int p2), .val (.int p3), .val (.int p4), .val (.int k1v), .val (.int k3v), .val (.int jv), .val (.int dlv), .val (.int aev), .val (.long av), .second, .val (.int px), .val (.int ex), .val (.int iv), .val (.int mo), .val (.long lv), .second, .val (.long tx), .second, .val (.long fv), .second, .val (.long qx), .second, .val (.long gv), .second, .val (.double (FP.ddiv (FP.l2d fv) (4629700416936869888 : UInt64))), .second, .val (.ref b105), .val (.int 1), .val (.double 0), .second, .val (.double (FP.l2d gv)), .second, .val (.double (FP.l2d av)), .second, .unset, .unset, .unset, .unset, .unset, .unset]) rfl ?_
        show own_S p e below T108 m 279 #[oI p0, oI p1, oI p2, oI p3, oI p4, oI k1v, oI k3v, oI jv, oI dlv, oI aev, oJ av, oV, oI px, oI ex, oI iv, oI mo, oJ lv, oV, oJ tx, oV, oJ fv, oV, oJ qx, oV, oJ gv, oV, .val (.double (FP.ddiv (FP.l2d fv) (4629700416936869888 : UInt64))), oV, oR b105, oI 1, oD 0, oV, oD (FP.l2d gv), oV, oD (FP.l2d av), oV, oU, oU, oU, oU, oU, oU] [] _
        refine XS.aload X108.here hx rfl (hb hby at_279) rfl rfl ?_
        show own_S p e below T108 m 281 #[oI p0, oI p1, oI p2, oI p3, oI p4, oI k1v, oI k3v, oI jv, oI dlv, oI aev, oJ av, oV, oI px, oI ex, oI iv, oI mo, oJ lv, oV, oJ tx, oV, oJ fv, oV, oJ qx, oV, oJ gv, oV, .val (.double (FP.ddiv (FP.l2d fv) (4629700416936869888 : UInt64))), oV, oR b105, oI 1, oD 0, oV, oD (FP.l2d gv), oV, oD (FP.l2d av), oV, oU, oU, oU, oU, oU, oU] [(.ref b105)] _
        refine XS.dload X108.here hx rfl (hb hby at_281) rfl ?_
        show own_S p e below T108 m 283 #[oI p0, oI p1, oI p2, oI p3, oI p4, oI k1v, oI k3v, oI jv, oI dlv, oI aev, oJ av, oV, oI px, oI ex, oI iv, oI mo, oJ lv, oV, oJ tx, oV, oJ fv, oV, oJ qx, oV, oJ gv, oV, .val (.double (FP.ddiv (FP.l2d fv) (4629700416936869888 : UInt64))), oV, oR b105, oI 1, oD 0, oV, oD (FP.l2d gv), oV, oD (FP.l2d av), oV, oU, oU, oU, oU, oU, oU] [(.double 0), (.ref b105)] _
        refine XS.dload X108.here hx rfl (hb hby at_283) rfl ?_
        show own_S p e below T108 m 285 #[oI p0, oI p1, oI p2, oI p3, oI p4, oI k1v, oI k3v, oI jv, oI dlv, oI aev, oJ av, oV, oI px, oI ex, oI iv, oI mo, oJ lv, oV, oJ tx, oV, oJ fv, oV, oJ qx, oV, oJ gv, oV, .val (.double (FP.ddiv (FP.l2d fv) (4629700416936869888 : UInt64))), oV, oR b105, oI 1, oD 0, oV, oD (FP.l2d gv), oV, oD (FP.l2d av), oV, oU, oU, oU, oU, oU, oU] [(.double (FP.l2d gv)), (.double 0), (.ref b105)] _
        refine XS.iload X108.here hx rfl (hb hby at_285) rfl ?_
        show own_S p e below T108 m 287 #[oI p0, oI p1, oI p2, oI p3, oI p4, oI k1v, oI k3v, oI jv, oI dlv, oI aev, oJ av, oV, oI px, oI ex, oI iv, oI mo, oJ lv, oV, oJ tx, oV, oJ fv, oV, oJ qx, oV, oJ gv, oV, .val (.double (FP.ddiv (FP.l2d fv) (4629700416936869888 : UInt64))), oV, oR b105, oI 1, oD 0, oV, oD (FP.l2d gv), oV, oD (FP.l2d av), oV, oU, oU, oU, oU, oU, oU] [(.int iv), (.double (FP.l2d gv)), (.double 0), (.ref b105)] _
        refine XS.i2dS X108.here hx rfl (v := (FP.i2d iv)) (hb hby at_287) rfl rfl ?_
        show own_S p e below T108 m 288 #[oI p0, oI p1, oI p2, oI p3, oI p4, oI k1v, oI k3v, oI jv, oI dlv, oI aev, oJ av, oV, oI px, oI ex, oI iv, oI mo, oJ lv, oV, oJ tx, oV, oJ fv, oV, oJ qx, oV, oJ gv, oV, .val (.double (FP.ddiv (FP.l2d fv) (4629700416936869888 : UInt64))), oV, oR b105, oI 1, oD 0, oV, oD (FP.l2d gv), oV, oD (FP.l2d av), oV, oU, oU, oU, oU, oU, oU] [(.double (FP.i2d iv)), (.double (FP.l2d gv)), (.double 0), (.ref b105)] _
        refine XS.iload X108.here hx rfl (hb hby at_288) rfl ?_
        show own_S p e below T108 m 290 #[oI p0, oI p1, oI p2, oI p3, oI p4, oI k1v, oI k3v, oI jv, oI dlv, oI aev, oJ av, oV, oI px, oI ex, oI iv, oI mo, oJ lv, oV, oJ tx, oV, oJ fv, oV, oJ qx, oV, oJ gv, oV, .val (.double (FP.ddiv (FP.l2d fv) (4629700416936869888 : UInt64))), oV, oR b105, oI 1, oD 0, oV, oD (FP.l2d gv), oV, oD (FP.l2d av), oV, oU, oU, oU, oU, oU, oU] [(.int dlv), (.double (FP.i2d iv)), (.double (FP.l2d gv)), (.double 0), (.ref b105)] _
        refine XS.i2dS X108.here hx rfl (v := (FP.i2d dlv)) (hb hby at_290) rfl rfl ?_
        show own_S p e below T108 m 291 #[oI p0, oI p1, oI p2, oI p3, oI p4, oI k1v, oI k3v, oI jv, oI dlv, oI aev, oJ av, oV, oI px, oI ex, oI iv, oI mo, oJ lv, oV, oJ tx, oV, oJ fv, oV, oJ qx, oV, oJ gv, oV, .val (.double (FP.ddiv (FP.l2d fv) (4629700416936869888 : UInt64))), oV, oR b105, oI 1, oD 0, oV, oD (FP.l2d gv), oV, oD (FP.l2d av), oV, oU, oU, oU, oU, oU, oU] [(.double (FP.i2d dlv)), (.double (FP.i2d iv)), (.double (FP.l2d gv)), (.double 0), (.ref b105)] _
        refine XS.dload X108.here hx rfl (hb hby at_291) rfl ?_
        show own_S p e below T108 m 293 #[oI p0, oI p1, oI p2, oI p3, oI p4, oI k1v, oI k3v, oI jv, oI dlv, oI aev, oJ av, oV, oI px, oI ex, oI iv, oI mo, oJ lv, oV, oJ tx, oV, oJ fv, oV, oJ qx, oV, oJ gv, oV, .val (.double (FP.ddiv (FP.l2d fv) (4629700416936869888 : UInt64))), oV, oR b105, oI 1, oD 0, oV, oD (FP.l2d gv), oV, oD (FP.l2d av), oV, oU, oU, oU, oU, oU, oU] [(.double (FP.l2d av)), (.double (FP.i2d dlv)), (.double (FP.i2d iv)), (.double (FP.l2d gv)), (.double 0), (.ref b105)] _
        refine st112.trans ?_
        show own_S p e below T112 m 296 #[oI p0, oI p1, oI p2, oI p3, oI p4, oI k1v, oI k3v, oI jv, oI dlv, oI aev, oJ av, oV, oI px, oI ex, oI iv, oI mo, oJ lv, oV, oJ tx, oV, oJ fv, oV, oJ qx, oV, oJ gv, oV, .val (.double (FP.ddiv (FP.l2d fv) (4629700416936869888 : UInt64))), oV, oR b105, oI 1, oD 0, oV, oD (FP.l2d gv), oV, oD (FP.l2d av), oV, oU, oU, oU, oU, oU, oU] [(.double 0)] _
        refine XS.dstore X112.here hx rfl (hb hby at_296) rfl (l' := #[.val (.int p0), .val (.int p1), .val (.int p2), .val (.int p3), .val (.int p4), .val (.int k1v), .val (.int k3v), .val (.int jv), .val (.int dlv), .val (.int aev), .val (.long av), .second, .val (.int px), .val (.int ex), .val (.int iv), .val (.int mo), .val (.long lv), .second, .val (.long tx), .second, .val (.long fv), .second, .val (.long qx), .second, .val (.long gv), .second, .val (.double (FP.ddiv (FP.l2d fv) (4629700416936869888 : UInt64))), .second, .val (.ref b105), .val (.int 1), .val (.double 0), .second, .val (.double (FP.l2d gv)), .second, .val (.double (FP.l2d av)), .second, .val (.double 0), .second, .unset, .unset, .unset, .unset]) rfl ?_
        show own_S p e below T112 m 298 #[oI p0, oI p1, oI p2, oI p3, oI p4, oI k1v, oI k3v, oI jv, oI dlv, oI aev, oJ av, oV, oI px, oI ex, oI iv, oI mo, oJ lv, oV, oJ tx, oV, oJ fv, oV, oJ qx, oV, oJ gv, oV, .val (.double (FP.ddiv (FP.l2d fv) (4629700416936869888 : UInt64))), oV, oR b105, oI 1, oD 0, oV, oD (FP.l2d gv), oV, oD (FP.l2d av), oV, oD 0, oV, oU, oU, oU, oU] [] _
        refine XS.iload X112.here hx rfl (hb hby at_298) rfl ?_
        show own_S p e below T112 m 300 #[oI p0, oI p1, oI p2, oI p3, oI p4, oI k1v, oI k3v, oI jv, oI dlv, oI aev, oJ av, oV, oI px, oI ex, oI iv, oI mo, oJ lv, oV, oJ tx, oV, oJ fv, oV, oJ qx, oV, oJ gv, oV, .val (.double (FP.ddiv (FP.l2d fv) (4629700416936869888 : UInt64))), oV, oR b105, oI 1, oD 0, oV, oD (FP.l2d gv), oV, oD (FP.l2d av), oV, oD 0, oV, oU, oU, oU, oU] [(.int 1)] _
        refine XS.ifNo X112.here hx rfl (hb hby at_300) rfl ((if0 _ _).trans (feq (by decide : ¬ ((1 : Int32) = (0 : Int32)))).1) ?_
        show own_S p e below T112 m 303 #[oI p0, oI p1, oI p2, oI p3, oI p4, oI k1v, oI k3v, oI jv, oI dlv, oI aev, oJ av, oV, oI px, oI ex, oI iv, oI mo, oJ lv, oV, oJ tx, oV, oJ fv, oV, oJ qx, oV, oJ gv, oV, .val (.double (FP.ddiv (FP.l2d fv) (4629700416936869888 : UInt64))), oV, oR b105, oI 1, oD 0, oV, oD (FP.l2d gv), oV, oD (FP.l2d av), oV, oD 0, oV, oU, oU, oU, oU] [] _
        refine XS.dload X112.here hx rfl (hb hby at_303) rfl ?_
        show own_S p e below T112 m 305 #[oI p0, oI p1, oI p2, oI p3, oI p4, oI k1v, oI k3v, oI jv, oI dlv, oI aev, oJ av, oV, oI px, oI ex, oI iv, oI mo, oJ lv, oV, oJ tx, oV, oJ fv, oV, oJ qx, oV, oJ gv, oV, .val (.double (FP.ddiv (FP.l2d fv) (4629700416936869888 : UInt64))), oV, oR b105, oI 1, oD 0, oV, oD (FP.l2d gv), oV, oD (FP.l2d av), oV, oD 0, oV, oU, oU, oU, oU] [(.double 0)] _
        refine XS.dconst0 X112.here hx rfl (v := 0) (hb hby at_305) rfl ?_
        show own_S p e below T112 m 306 #[oI p0, oI p1, oI p2, oI p3, oI p4, oI k1v, oI k3v, oI jv, oI dlv, oI aev, oJ av, oV, oI px, oI ex, oI iv, oI mo, oJ lv, oV, oJ tx, oV, oJ fv, oV, oJ qx, oV, oJ gv, oV, .val (.double (FP.ddiv (FP.l2d fv) (4629700416936869888 : UInt64))), oV, oR b105, oI 1, oD 0, oV, oD (FP.l2d gv), oV, oD (FP.l2d av), oV, oD 0, oV, oU, oU, oU, oU] [(.double 0), (.double 0)] _
        refine XS.dcmpS X112.here hx rfl (v := (0 : Int32)) (hb hby at_306) rfl (by decide +kernel) ?_
        show own_S p e below T112 m 307 #[oI p0, oI p1, oI p2, oI p3, oI p4, oI k1v, oI k3v, oI jv, oI dlv, oI aev, oJ av, oV, oI px, oI ex, oI iv, oI mo, oJ lv, oV, oJ tx, oV, oJ fv, oV, oJ qx, oV, oJ gv, oV, .val (.double (FP.ddiv (FP.l2d fv) (4629700416936869888 : UInt64))), oV, oR b105, oI 1, oD 0, oV, oD (FP.l2d gv), oV, oD (FP.l2d av), oV, oD 0, oV, oU, oU, oU, oU] [(.int 0)] _
        refine XS.ifNo X112.here hx rfl (hb hby at_307) rfl ((if0 _ _).trans (teq (by decide : (0 : Int32) = (0 : Int32))).2) ?_
        show own_S p e below T112 m 310 #[oI p0, oI p1, oI p2, oI p3, oI p4, oI k1v, oI k3v, oI jv, oI dlv, oI aev, oJ av, oV, oI px, oI ex, oI iv, oI mo, oJ lv, oV, oJ tx, oV, oJ fv, oV, oJ qx, oV, oJ gv, oV, .val (.double (FP.ddiv (FP.l2d fv) (4629700416936869888 : UInt64))), oV, oR b105, oI 1, oD 0, oV, oD (FP.l2d gv), oV, oD (FP.l2d av), oV, oD 0, oV, oU, oU, oU, oU] [] _
        refine XS.iconst X112.here hx rfl (hb hby at_310) ?_
        show own_S p e below T112 m 311 #[oI p0, oI p1, oI p2, oI p3, oI p4, oI k1v, oI k3v, oI jv, oI dlv, oI aev, oJ av, oV, oI px, oI ex, oI iv, oI mo, oJ lv, oV, oJ tx, oV, oJ fv, oV, oJ qx, oV, oJ gv, oV, .val (.double (FP.ddiv (FP.l2d fv) (4629700416936869888 : UInt64))), oV, oR b105, oI 1, oD 0, oV, oD (FP.l2d gv), oV, oD (FP.l2d av), oV, oD 0, oV, oU, oU, oU, oU] [(.int 1)] _
        refine XS.goto X112.here hx rfl (pc0 := 311) (pc' := 315) rfl (hb hby at_311) (by decide) (by decide) ?_
        show own_S p e below T112 m 315 #[oI p0, oI p1, oI p2, oI p3, oI p4, oI k1v, oI k3v, oI jv, oI dlv, oI aev, oJ av, oV, oI px, oI ex, oI iv, oI mo, oJ lv, oV, oJ tx, oV, oJ fv, oV, oJ qx, oV, oJ gv, oV, .val (.double (FP.ddiv (FP.l2d fv) (4629700416936869888 : UInt64))), oV, oR b105, oI 1, oD 0, oV, oD (FP.l2d gv), oV, oD (FP.l2d av), oV, oD 0, oV, oU, oU, oU, oU] [(.int 1)] _
        exact retN X112 hx (t := .boolean) Bd.returns (by simp) (hb hby at_315) hr
      · show Qm0 Z p0 p1 p2 p3 p4 h0 n0 _ T112.heap _
        rw [P112_0]
        exact ⟨rfl, N112⟩
    · skip
      obtain ⟨cq113, kq113, q113a, q113b, q113c⟩ := isOf hZ108 rfl P108_1
      obtain ⟨_, _, ⟨T113, L113, k113, n113⟩, -, X113, ⟨Lc113, hQ113, l113, y113, z113⟩, st113⟩ := X108.virtualBack hx (y := (⟨"com/example/buurt/buurt/model/Bm25", "weight", "(DDDDD)D"⟩ : MethodName)) (z := (⟨"com/example/buurt/buurt/model/Bm25", "weight", "(DDDDD)D"⟩ : MethodName)) how108 (mvT hZ108 (own_w hw 68 rfl)) (mvT hZ108 (own_w hw 69 rfl)) (notFace_of_selects (args := #[]) (mvT hZ108 (own_w hw 71 rfl))) (mvT hZ108 (own_w hw 71 rfl)) (mvT hZ108 (own_w hw 70 rfl)) (by decide) (backOf (W := 0) (rmz1 l Z a0 hw [] b105 (FP.l2d gv) (FP.i2d iv) (FP.i2d dlv) (0 : UInt64) T108.heap n0 ZZ109 ) hZ108 (own_w hw 72 rfl) (own_w hw 5 rfl) (by decide) (by decide)) q113a q113c (g := (mkF m 293 #[.val (.int p0), .val (.int p1), .val (.int p2), .val (.int p3), .val (.int p4), .val (.int k1v), .val (.int k3v), .val (.int jv), .val (.int dlv), .val (.int aev), .val (.long av), .second, .val (.int px), .val (.int ex), .val (.int iv), .val (.int mo), .val (.long lv), .second, .val (.long tx), .second, .val (.long fv), .second, .val (.long qx), .second, .val (.long gv), .second, .val (.double (FP.ddiv (FP.l2d fv) (4629700416936869888 : UInt64))), .second, .val (.ref b105), .val (.int 1), .val (.double 0), .second, .val (.double (FP.l2d gv)), .second, .val (.double 0), .second, .unset, .unset, .unset, .unset, .unset, .unset] [(.double 0), (.double (FP.i2d dlv)), (.double (FP.i2d iv)), (.double (FP.l2d gv)), (.double 0), (.ref b105)])) rfl (by rw [hml]; rfl) (Steps.refl _) (argsL := [(.double 0), (.double (FP.l2d gv)), (.double (FP.i2d iv)), (.double (FP.i2d dlv)), (.double 0)]) (rest := []) (lenOf pd6 rfl) rfl (by show 2 * 0 + _ ≤ _; exact Nat.le_of_eq rfl) (hb hby at_293) (fun _ _ => ⟨rfl, rfl, (by decide : 16 + 0 ≤ _), (by decide : 262 + 0 ≤ _)⟩)
      dsimp only [Pt.U, Pt.locs, Pt.cells, Pt.slots] at X113 l113 y113 z113 st113 hQ113
      subst l113 y113 z113
      obtain ⟨rfl, Nq113, P113_0⟩ := hQ113
      have N113 := Fr.app N108 Nq113
      obtain ⟨fs, hr, hrun, hended, hREW⟩ := X113.leaveW hS108 (by rw [P113_0]; exact (Nat.le_refl _)) (v := some (.int 1)) (fun h => by rw [Bd.returns] at h; cases h)
      refine ⟨_, _, pre0 _ (pre111 _ ?_), hrun, hended, _, _, rfl, ?_, hREW.1, hREW.2.1, hREW.2.2.1, hREW.2.2.2.mono (by decide) (by decide)⟩
      · show own_S p e below T108 m 267 #[oI p0, oI p1, oI p2, oI p3, oI p4, oI k1v, oI k3v, oI jv, oI dlv, oI aev, oJ av, oV, oI px, oI ex, oI iv, oI mo, oJ lv, oV, oJ tx, oV, oJ fv, oV, oJ qx, oV, oJ gv, oV, .val (.double (FP.ddiv (FP.l2d fv) (4629700416936869888 : UInt64))), oV, oR b105, oI 1, oD 0, oV, oD (FP.l2d gv), oV, oU, oU, oU, oU, oU, oU, oU, oU] [(.int (p4 &&& (4 : Int32)))] _
        refine XS.ifNo X108.here hx rfl (hb hby at_267) rfl ((if0 _ _).trans (feq (he4 : ¬ ((p4 &&& (4 : Int32)) = (0 : Int32)))).1) ?_
        show own_S p e below T108 m 270 #[oI p0, oI p1, oI p2, oI p3, oI p4, oI k1v, oI k3v, oI jv, oI dlv, oI aev, oJ av, oV, oI px, oI ex, oI iv, oI mo, oJ lv, oV, oJ tx, oV, oJ fv, oV, oJ qx, oV, oJ gv, oV, .val (.double (FP.ddiv (FP.l2d fv) (4629700416936869888 : UInt64))), oV, oR b105, oI 1, oD 0, oV, oD (FP.l2d gv), oV, oU, oU, oU, oU, oU, oU, oU, oU] [] _
        refine XS.dconst0 X108.here hx rfl (v := 0) (hb hby at_270) rfl ?_
        show own_S p e below T108 m 271 #[oI p0, oI p1, oI p2, oI p3, oI p4, oI k1v, oI k3v, oI jv, oI dlv, oI aev, oJ av, oV, oI px, oI ex, oI iv, oI mo, oJ lv, oV, oJ tx, oV, oJ fv, oV, oJ qx, oV, oJ gv, oV, .val (.double (FP.ddiv (FP.l2d fv) (4629700416936869888 : UInt64))), oV, oR b105, oI 1, oD 0, oV, oD (FP.l2d gv), oV, oU, oU, oU, oU, oU, oU, oU, oU] [(.double 0)] _
        refine XS.goto X108.here hx rfl (pc0 := 271) (pc' := 277) rfl (hb hby at_271) (by decide) (by decide) ?_
        show own_S p e below T108 m 277 #[oI p0, oI p1, oI p2, oI p3, oI p4, oI k1v, oI k3v, oI jv, oI dlv, oI aev, oJ av, oV, oI px, oI ex, oI iv, oI mo, oJ lv, oV, oJ tx, oV, oJ fv, oV, oJ qx, oV, oJ gv, oV, .val (.double (FP.ddiv (FP.l2d fv) (4629700416936869888 : UInt64))), oV, oR b105, oI 1, oD 0, oV, oD (FP.l2d gv), oV, oU, oU, oU, oU, oU, oU, oU, oU] [(.double 0)] _
        refine XS.dstore X108.here hx rfl (hb hby at_277) rfl (l' := #[.val (.int p0), .val (.int p1), .val (.int p2), .val (.int p3), .val (.int p4), .val (.int k1v), .val (.int k3v), .val (.int jv), .val (.int dlv), .val (.int aev), .val (.long av), .second, .val (.int px), .val (.int ex), .val (.int iv), .val (.int mo), .val (.long lv), .second, .val (.long tx), .second, .val (.long fv), .second, .val (.long qx), .second, .val (.long gv), .second, .val (.double (FP.ddiv (FP.l2d fv) (4629700416936869888 : UInt64))), .second, .val (.ref b105), .val (.int 1), .val (.double 0), .second, .val (.double (FP.l2d gv)), .second, .val (.double 0), .second, .unset, .unset, .unset, .unset, .unset, .unset]) rfl ?_
        show own_S p e below T108 m 279 #[oI p0, oI p1, oI p2, oI p3, oI p4, oI k1v, oI k3v, oI jv, oI dlv, oI aev, oJ av, oV, oI px, oI ex, oI iv, oI mo, oJ lv, oV, oJ tx, oV, oJ fv, oV, oJ qx, oV, oJ gv, oV, .val (.double (FP.ddiv (FP.l2d fv) (4629700416936869888 : UInt64))), oV, oR b105, oI 1, oD 0, oV, oD (FP.l2d gv), oV, oD 0, oV, oU, oU, oU, oU, oU, oU] [] _
        refine XS.aload X108.here hx rfl (hb hby at_279) rfl rfl ?_
        show own_S p e below T108 m 281 #[oI p0, oI p1, oI p2, oI p3, oI p4, oI k1v, oI k3v, oI jv, oI dlv, oI aev, oJ av, oV, oI px, oI ex, oI iv, oI mo, oJ lv, oV, oJ tx, oV, oJ fv, oV, oJ qx, oV, oJ gv, oV, .val (.double (FP.ddiv (FP.l2d fv) (4629700416936869888 : UInt64))), oV, oR b105, oI 1, oD 0, oV, oD (FP.l2d gv), oV, oD 0, oV, oU, oU, oU, oU, oU, oU] [(.ref b105)] _
        refine XS.dload X108.here hx rfl (hb hby at_281) rfl ?_
        show own_S p e below T108 m 283 #[oI p0, oI p1, oI p2, oI p3, oI p4, oI k1v, oI k3v, oI jv, oI dlv, oI aev, oJ av, oV, oI px, oI ex, oI iv, oI mo, oJ lv, oV, oJ tx, oV, oJ fv, oV, oJ qx, oV, oJ gv, oV, .val (.double (FP.ddiv (FP.l2d fv) (4629700416936869888 : UInt64))), oV, oR b105, oI 1, oD 0, oV, oD (FP.l2d gv), oV, oD 0, oV, oU, oU, oU, oU, oU, oU] [(.double 0), (.ref b105)] _
        refine XS.dload X108.here hx rfl (hb hby at_283) rfl ?_
        show own_S p e below T108 m 285 #[oI p0, oI p1, oI p2, oI p3, oI p4, oI k1v, oI k3v, oI jv, oI dlv, oI aev, oJ av, oV, oI px, oI ex, oI iv, oI mo, oJ lv, oV, oJ tx, oV, oJ fv, oV, oJ qx, oV, oJ gv, oV, .val (.double (FP.ddiv (FP.l2d fv) (4629700416936869888 : UInt64))), oV, oR b105, oI 1, oD 0, oV, oD (FP.l2d gv), oV, oD 0, oV, oU, oU, oU, oU, oU, oU] [(.double (FP.l2d gv)), (.double 0), (.ref b105)] _
        refine XS.iload X108.here hx rfl (hb hby at_285) rfl ?_
        show own_S p e below T108 m 287 #[oI p0, oI p1, oI p2, oI p3, oI p4, oI k1v, oI k3v, oI jv, oI dlv, oI aev, oJ av, oV, oI px, oI ex, oI iv, oI mo, oJ lv, oV, oJ tx, oV, oJ fv, oV, oJ qx, oV, oJ gv, oV, .val (.double (FP.ddiv (FP.l2d fv) (4629700416936869888 : UInt64))), oV, oR b105, oI 1, oD 0, oV, oD (FP.l2d gv), oV, oD 0, oV, oU, oU, oU, oU, oU, oU] [(.int iv), (.double (FP.l2d gv)), (.double 0), (.ref b105)] _
        refine XS.i2dS X108.here hx rfl (v := (FP.i2d iv)) (hb hby at_287) rfl rfl ?_
        show own_S p e below T108 m 288 #[oI p0, oI p1, oI p2, oI p3, oI p4, oI k1v, oI k3v, oI jv, oI dlv, oI aev, oJ av, oV, oI px, oI ex, oI iv, oI mo, oJ lv, oV, oJ tx, oV, oJ fv, oV, oJ qx, oV, oJ gv, oV, .val (.double (FP.ddiv (FP.l2d fv) (4629700416936869888 : UInt64))), oV, oR b105, oI 1, oD 0, oV, oD (FP.l2d gv), oV, oD 0, oV, oU, oU, oU, oU, oU, oU] [(.double (FP.i2d iv)), (.double (FP.l2d gv)), (.double 0), (.ref b105)] _
        refine XS.iload X108.here hx rfl (hb hby at_288) rfl ?_
        show own_S p e below T108 m 290 #[oI p0, oI p1, oI p2, oI p3, oI p4, oI k1v, oI k3v, oI jv, oI dlv, oI aev, oJ av, oV, oI px, oI ex, oI iv, oI mo, oJ lv, oV, oJ tx, oV, oJ fv, oV, oJ qx, oV, oJ gv, oV, .val (.double (FP.ddiv (FP.l2d fv) (4629700416936869888 : UInt64))), oV, oR b105, oI 1, oD 0, oV, oD (FP.l2d gv), oV, oD 0, oV, oU, oU, oU, oU, oU, oU] [(.int dlv), (.double (FP.i2d iv)), (.double (FP.l2d gv)), (.double 0), (.ref b105)] _
        refine XS.i2dS X108.here hx rfl (v := (FP.i2d dlv)) (hb hby at_290) rfl rfl ?_
        show own_S p e below T108 m 291 #[oI p0, oI p1, oI p2, oI p3, oI p4, oI k1v, oI k3v, oI jv, oI dlv, oI aev, oJ av, oV, oI px, oI ex, oI iv, oI mo, oJ lv, oV, oJ tx, oV, oJ fv, oV, oJ qx, oV, oJ gv, oV, .val (.double (FP.ddiv (FP.l2d fv) (4629700416936869888 : UInt64))), oV, oR b105, oI 1, oD 0, oV, oD (FP.l2d gv), oV, oD 0, oV, oU, oU, oU, oU, oU, oU] [(.double (FP.i2d dlv)), (.double (FP.i2d iv)), (.double (FP.l2d gv)), (.double 0), (.ref b105)] _
        refine XS.dload X108.here hx rfl (hb hby at_291) rfl ?_
        show own_S p e below T108 m 293 #[oI p0, oI p1, oI p2, oI p3, oI p4, oI k1v, oI k3v, oI jv, oI dlv, oI aev, oJ av, oV, oI px, oI ex, oI iv, oI mo, oJ lv, oV, oJ tx, oV, oJ fv, oV, oJ qx, oV, oJ gv, oV, .val (.double (FP.ddiv (FP.l2d fv) (4629700416936869888 : UInt64))), oV, oR b105, oI 1, oD 0, oV, oD (FP.l2d gv), oV, oD 0, oV, oU, oU, oU, oU, oU, oU] [(.double 0), (.double (FP.i2d dlv)), (.double (FP.i2d iv)), (.double (FP.l2d gv)), (.double 0), (.ref b105)] _
        refine st113.trans ?_
        show own_S p e below T113 m 296 #[oI p0, oI p1, oI p2, oI p3, oI p4, oI k1v, oI k3v, oI jv, oI dlv, oI aev, oJ av, oV, oI px, oI ex, oI iv, oI mo, oJ lv, oV, oJ tx, oV, oJ fv, oV, oJ qx, oV, oJ gv, oV, .val (.double (FP.ddiv (FP.l2d fv) (4629700416936869888 : UInt64))), oV, oR b105, oI 1, oD 0, oV, oD (FP.l2d gv), oV, oD 0, oV, oU, oU, oU, oU, oU, oU] [(.double 0)] _
        refine XS.dstore X113.here hx rfl (hb hby at_296) rfl (l' := #[.val (.int p0), .val (.int p1), .val (.int p2), .val (.int p3), .val (.int p4), .val (.int k1v), .val (.int k3v), .val (.int jv), .val (.int dlv), .val (.int aev), .val (.long av), .second, .val (.int px), .val (.int ex), .val (.int iv), .val (.int mo), .val (.long lv), .second, .val (.long tx), .second, .val (.long fv), .second, .val (.long qx), .second, .val (.long gv), .second, .val (.double (FP.ddiv (FP.l2d fv) (4629700416936869888 : UInt64))), .second, .val (.ref b105), .val (.int 1), .val (.double 0), .second, .val (.double (FP.l2d gv)), .second, .val (.double 0), .second, .val (.double 0), .second, .unset, .unset, .unset, .unset]) rfl ?_
        show own_S p e below T113 m 298 #[oI p0, oI p1, oI p2, oI p3, oI p4, oI k1v, oI k3v, oI jv, oI dlv, oI aev, oJ av, oV, oI px, oI ex, oI iv, oI mo, oJ lv, oV, oJ tx, oV, oJ fv, oV, oJ qx, oV, oJ gv, oV, .val (.double (FP.ddiv (FP.l2d fv) (4629700416936869888 : UInt64))), oV, oR b105, oI 1, oD 0, oV, oD (FP.l2d gv), oV, oD 0, oV, oD 0, oV, oU, oU, oU, oU] [] _
        refine XS.iload X113.here hx rfl (hb hby at_298) rfl ?_
        show own_S p e below T113 m 300 #[oI p0, oI p1, oI p2, oI p3, oI p4, oI k1v, oI k3v, oI jv, oI dlv, oI aev, oJ av, oV, oI px, oI ex, oI iv, oI mo, oJ lv, oV, oJ tx, oV, oJ fv, oV, oJ qx, oV, oJ gv, oV, .val (.double (FP.ddiv (FP.l2d fv) (4629700416936869888 : UInt64))), oV, oR b105, oI 1, oD 0, oV, oD (FP.l2d gv), oV, oD 0, oV, oD 0, oV, oU, oU, oU, oU] [(.int 1)] _
        refine XS.ifNo X113.here hx rfl (hb hby at_300) rfl ((if0 _ _).trans (feq (by decide : ¬ ((1 : Int32) = (0 : Int32)))).1) ?_
        show own_S p e below T113 m 303 #[oI p0, oI p1, oI p2, oI p3, oI p4, oI k1v, oI k3v, oI jv, oI dlv, oI aev, oJ av, oV, oI px, oI ex, oI iv, oI mo, oJ lv, oV, oJ tx, oV, oJ fv, oV, oJ qx, oV, oJ gv, oV, .val (.double (FP.ddiv (FP.l2d fv) (4629700416936869888 : UInt64))), oV, oR b105, oI 1, oD 0, oV, oD (FP.l2d gv), oV, oD 0, oV, oD 0, oV, oU, oU, oU, oU] [] _
        refine XS.dload X113.here hx rfl (hb hby at_303) rfl ?_
        show own_S p e below T113 m 305 #[oI p0, oI p1, oI p2, oI p3, oI p4, oI k1v, oI k3v, oI jv, oI dlv, oI aev, oJ av, oV, oI px, oI ex, oI iv, oI mo, oJ lv, oV, oJ tx, oV, oJ fv, oV, oJ qx, oV, oJ gv, oV, .val (.double (FP.ddiv (FP.l2d fv) (4629700416936869888 : UInt64))), oV, oR b105, oI 1, oD 0, oV, oD (FP.l2d gv), oV, oD 0, oV, oD 0, oV, oU, oU, oU, oU] [(.double 0)] _
        refine XS.dconst0 X113.here hx rfl (v := 0) (hb hby at_305) rfl ?_
        show own_S p e below T113 m 306 #[oI p0, oI p1, oI p2, oI p3, oI p4, oI k1v, oI k3v, oI jv, oI dlv, oI aev, oJ av, oV, oI px, oI ex, oI iv, oI mo, oJ lv, oV, oJ tx, oV, oJ fv, oV, oJ qx, oV, oJ gv, oV, .val (.double (FP.ddiv (FP.l2d fv) (4629700416936869888 : UInt64))), oV, oR b105, oI 1, oD 0, oV, oD (FP.l2d gv), oV, oD 0, oV, oD 0, oV, oU, oU, oU, oU] [(.double 0), (.double 0)] _
        refine XS.dcmpS X113.here hx rfl (v := (0 : Int32)) (hb hby at_306) rfl (by decide +kernel) ?_
        show own_S p e below T113 m 307 #[oI p0, oI p1, oI p2, oI p3, oI p4, oI k1v, oI k3v, oI jv, oI dlv, oI aev, oJ av, oV, oI px, oI ex, oI iv, oI mo, oJ lv, oV, oJ tx, oV, oJ fv, oV, oJ qx, oV, oJ gv, oV, .val (.double (FP.ddiv (FP.l2d fv) (4629700416936869888 : UInt64))), oV, oR b105, oI 1, oD 0, oV, oD (FP.l2d gv), oV, oD 0, oV, oD 0, oV, oU, oU, oU, oU] [(.int 0)] _
        refine XS.ifNo X113.here hx rfl (hb hby at_307) rfl ((if0 _ _).trans (teq (by decide : (0 : Int32) = (0 : Int32))).2) ?_
        show own_S p e below T113 m 310 #[oI p0, oI p1, oI p2, oI p3, oI p4, oI k1v, oI k3v, oI jv, oI dlv, oI aev, oJ av, oV, oI px, oI ex, oI iv, oI mo, oJ lv, oV, oJ tx, oV, oJ fv, oV, oJ qx, oV, oJ gv, oV, .val (.double (FP.ddiv (FP.l2d fv) (4629700416936869888 : UInt64))), oV, oR b105, oI 1, oD 0, oV, oD (FP.l2d gv), oV, oD 0, oV, oD 0, oV, oU, oU, oU, oU] [] _
        refine XS.iconst X113.here hx rfl (hb hby at_310) ?_
        show own_S p e below T113 m 311 #[oI p0, oI p1, oI p2, oI p3, oI p4, oI k1v, oI k3v, oI jv, oI dlv, oI aev, oJ av, oV, oI px, oI ex, oI iv, oI mo, oJ lv, oV, oJ tx, oV, oJ fv, oV, oJ qx, oV, oJ gv, oV, .val (.double (FP.ddiv (FP.l2d fv) (4629700416936869888 : UInt64))), oV, oR b105, oI 1, oD 0, oV, oD (FP.l2d gv), oV, oD 0, oV, oD 0, oV, oU, oU, oU, oU] [(.int 1)] _
        refine XS.goto X113.here hx rfl (pc0 := 311) (pc' := 315) rfl (hb hby at_311) (by decide) (by decide) ?_
        show own_S p e below T113 m 315 #[oI p0, oI p1, oI p2, oI p3, oI p4, oI k1v, oI k3v, oI jv, oI dlv, oI aev, oJ av, oV, oI px, oI ex, oI iv, oI mo, oJ lv, oV, oJ tx, oV, oJ fv, oV, oJ qx, oV, oJ gv, oV, .val (.double (FP.ddiv (FP.l2d fv) (4629700416936869888 : UInt64))), oV, oR b105, oI 1, oD 0, oV, oD (FP.l2d gv), oV, oD 0, oV, oD 0, oV, oU, oU, oU, oU] [(.int 1)] _
        exact retN X113 hx (t := .boolean) Bd.returns (by simp) (hb hby at_315) hr
      · show Qm0 Z p0 p1 p2 p3 p4 h0 n0 _ T113.heap _
        rw [P113_0]
        exact ⟨rfl, N113⟩
  · skip
    have pre114 : ∀ t, Steps p.tables e below (T108.setTop (mkF m 219 #[.val (.int p0), .val (.int p1), .val (.int p2), .val (.int p3), .val (.int p4), .val (.int k1v), .val (.int k3v), .val (.int jv), .val (.int dlv), .val (.int aev), .val (.long av), .second, .val (.int px), .val (.int ex), .val (.int iv), .val (.int mo), .val (.long lv), .second, .val (.long tx), .second, .val (.long fv), .second, .val (.long qx), .second, .val (.long gv), .second, .val (.double (FP.ddiv (FP.l2d fv) (4629700416936869888 : UInt64))), .second, .val (.ref b105), .unset, .unset, .unset, .unset, .unset, .unset, .unset, .unset, .unset, .unset, .unset, .unset, .unset] [(.int 2), (.int mo)])) t → Steps p.tables e below (s₁.setTop (mkF m 0 #[.val (.int p0), .val (.int p1), .val (.int p2), .val (.int p3), .val (.int p4), .unset, .unset, .unset, .unset, .unset, .unset, .unset, .unset, .unset, .unset, .unset, .unset, .unset, .unset, .unset, .unset, .unset, .unset, .unset, .unset, .unset, .unset, .unset, .unset, .unset, .unset, .unset, .unset, .unset, .unset, .unset, .unset, .unset, .unset, .unset, .unset, .unset] [])) t := by
      intro t kt
      refine pre110 _ ?_
      show own_S p e below T108 m 213 #[oI p0, oI p1, oI p2, oI p3, oI p4, oI k1v, oI k3v, oI jv, oI dlv, oI aev, oJ av, oV, oI px, oI ex, oI iv, oI mo, oJ lv, oV, oJ tx, oV, oJ fv, oV, oJ qx, oV, oJ gv, oV, .val (.double (FP.ddiv (FP.l2d fv) (4629700416936869888 : UInt64))), oV, oR b105, oU, oU, oU, oU, oU, oU, oU, oU, oU, oU, oU, oU, oU] [(.int 1), (.int mo)] _
      refine XS.icmpNo X108.here hx rfl (hb hby at_213) rfl (feq (hm1 : ¬ (mo = (1 : Int32)))).1 ?_
      show own_S p e below T108 m 216 #[oI p0, oI p1, oI p2, oI p3, oI p4, oI k1v, oI k3v, oI jv, oI dlv, oI aev, oJ av, oV, oI px, oI ex, oI iv, oI mo, oJ lv, oV, oJ tx, oV, oJ fv, oV, oJ qx, oV, oJ gv, oV, .val (.double (FP.ddiv (FP.l2d fv) (4629700416936869888 : UInt64))), oV, oR b105, oU, oU, oU, oU, oU, oU, oU, oU, oU, oU, oU, oU, oU] [] _
      refine XS.iload X108.here hx rfl (hb hby at_216) rfl ?_
      show own_S p e below T108 m 218 #[oI p0, oI p1, oI p2, oI p3, oI p4, oI k1v, oI k3v, oI jv, oI dlv, oI aev, oJ av, oV, oI px, oI ex, oI iv, oI mo, oJ lv, oV, oJ tx, oV, oJ fv, oV, oJ qx, oV, oJ gv, oV, .val (.double (FP.ddiv (FP.l2d fv) (4629700416936869888 : UInt64))), oV, oR b105, oU, oU, oU, oU, oU, oU, oU, oU, oU, oU, oU, oU, oU] [(.int mo)] _
      refine XS.iconst X108.here hx rfl (hb hby at_218) ?_
      exact kt
    by_cases hm2 : mo = (2 : Int32)
    · skip
      have pre115 : ∀ t, Steps p.tables e below (T108.setTop (mkF m 267 #[.val (.int p0), .val (.int p1), .val (.int p2), .val (.int p3), .val (.int p4), .val (.int k1v), .val (.int k3v), .val (.int jv), .val (.int dlv), .val (.int aev), .val (.long av), .second, .val (.int px), .val (.int ex), .val (.int iv), .val (.int mo), .val (.long lv), .second, .val (.long tx), .second, .val (.long fv), .second, .val (.long qx), .second, .val (.long gv), .second, .val (.double (FP.ddiv (FP.l2d fv) (4629700416936869888 : UInt64))), .second, .val (.ref b105), .val (.int 1), .val (.double (FP.ddiv (FP.l2d fv) (4629700416936869888 : UInt64))), .second, .val (.double 0), .second, .unset, .unset, .unset, .unset, .unset, .unset, .unset, .unset] [(.int (p4 &&& (4 : Int32)))])) t → Steps p.tables e below (s₁.setTop (mkF m 0 #[.val (.int p0), .val (.int p1), .val (.int p2), .val (.int p3), .val (.int p4), .unset, .unset, .unset, .unset, .unset, .unset, .unset, .unset, .unset, .unset, .unset, .unset, .unset, .unset, .unset, .unset, .unset, .unset, .unset, .unset, .unset, .unset, .unset, .unset, .unset, .unset, .unset, .unset, .unset, .unset, .unset, .unset, .unset, .unset, .unset, .unset, .unset] [])) t := by
        intro t kt
        refine pre114 _ ?_
        show own_S p e below T108 m 219 #[oI p0, oI p1, oI p2, oI p3, oI p4, oI k1v, oI k3v, oI jv, oI dlv, oI aev, oJ av, oV, oI px, oI ex, oI iv, oI mo, oJ lv, oV, oJ tx, oV, oJ fv, oV, oJ qx, oV, oJ gv, oV, .val (.double (FP.ddiv (FP.l2d fv) (4629700416936869888 : UInt64))), oV, oR b105, oU, oU, oU, oU, oU, oU, oU, oU, oU, oU, oU, oU, oU] [(.int 2), (.int mo)] _
        refine XS.icmpNo X108.here hx rfl (hb hby at_219) rfl (teq (hm2 : mo = (2 : Int32))).2 ?_
        show own_S p e below T108 m 222 #[oI p0, oI p1, oI p2, oI p3, oI p4, oI k1v, oI k3v, oI jv, oI dlv, oI aev, oJ av, oV, oI px, oI ex, oI iv, oI mo, oJ lv, oV, oJ tx, oV, oJ fv, oV, oJ qx, oV, oJ gv, oV, .val (.double (FP.ddiv (FP.l2d fv) (4629700416936869888 : UInt64))), oV, oR b105, oU, oU, oU, oU, oU, oU, oU, oU, oU, oU, oU, oU, oU] [] _
        refine XS.iconst X108.here hx rfl (hb hby at_222) ?_
        show own_S p e below T108 m 223 #[oI p0, oI p1, oI p2, oI p3, oI p4, oI k1v, oI k3v, oI jv, oI dlv, oI aev, oJ av, oV, oI px, oI ex, oI iv, oI mo, oJ lv, oV, oJ tx, oV, oJ fv, oV, oJ qx, oV, oJ gv, oV, .val (.double (FP.ddiv (FP.l2d fv) (4629700416936869888 : UInt64))), oV, oR b105, oU, oU, oU, oU, oU, oU, oU, oU, oU, oU, oU, oU, oU] [(.int 1)] _
        refine XS.goto X108.here hx rfl (pc0 := 223) (pc' := 227) rfl (hb hby at_223) (by decide) (by decide) ?_
        show own_S p e below T108 m 227 #[oI p0, oI p1, oI p2, oI p3, oI p4, oI k1v, oI k3v, oI jv, oI dlv, oI aev, oJ av, oV, oI px, oI ex, oI iv, oI mo, oJ lv, oV, oJ tx, oV, oJ fv, oV, oJ qx, oV, oJ gv, oV, .val (.double (FP.ddiv (FP.l2d fv) (4629700416936869888 : UInt64))), oV, oR b105, oU, oU, oU, oU, oU, oU, oU, oU, oU, oU, oU, oU, oU] [(.int 1)] _
        refine XS.istore X108.here hx rfl (hb hby at_227) rfl (l' := #[.val (.int p0), .val (.int p1), .val (.int p2), .val (.int p3), .val (.int p4), .val (.int k1v), .val (.int k3v), .val (.int jv), .val (.int dlv), .val (.int aev), .val (.long av), .second, .val (.int px), .val (.int ex), .val (.int iv), .val (.int mo), .val (.long lv), .second, .val (.long tx), .second, .val (.long fv), .second, .val (.long qx), .second, .val (.long gv), .second, .val (.double (FP.ddiv (FP.l2d fv) (4629700416936869888 : UInt64))), .second, .val (.ref b105), .val (.int 1), .unset, .unset, .unset, .unset, .unset, .unset, .unset, .unset, .unset, .unset, .unset, .unset]) rfl ?_
        show own_S p e below T108 m 229 #[oI p0, oI p1, oI p2, oI p3, oI p4, oI k1v, oI k3v, oI jv, oI dlv, oI aev, oJ av, oV, oI px, oI ex, oI iv, oI mo, oJ lv, oV, oJ tx, oV, oJ fv, oV, oJ qx, oV, oJ gv, oV, .val (.double (FP.ddiv (FP.l2d fv) (4629700416936869888 : UInt64))), oV, oR b105, oI 1, oU, oU, oU, oU, oU, oU, oU, oU, oU, oU, oU, oU] [] _
        refine XS.iload X108.here hx rfl (hb hby at_229) rfl ?_
        show own_S p e below T108 m 231 #[oI p0, oI p1, oI p2, oI p3, oI p4, oI k1v, oI k3v, oI jv, oI dlv, oI aev, oJ av, oV, oI px, oI ex, oI iv, oI mo, oJ lv, oV, oJ tx, oV, oJ fv, oV, oJ qx, oV, oJ gv, oV, .val (.double (FP.ddiv (FP.l2d fv) (4629700416936869888 : UInt64))), oV, oR b105, oI 1, oU, oU, oU, oU, oU, oU, oU, oU, oU, oU, oU, oU] [(.int mo)] _
        refine XS.iconst X108.here hx rfl (hb hby at_231) ?_
        show own_S p e below T108 m 232 #[oI p0, oI p1, oI p2, oI p3, oI p4, oI k1v, oI k3v, oI jv, oI dlv, oI aev, oJ av, oV, oI px, oI ex, oI iv, oI mo, oJ lv, oV, oJ tx, oV, oJ fv, oV, oJ qx, oV, oJ gv, oV, .val (.double (FP.ddiv (FP.l2d fv) (4629700416936869888 : UInt64))), oV, oR b105, oI 1, oU, oU, oU, oU, oU, oU, oU, oU, oU, oU, oU, oU] [(.int 1), (.int mo)] _
        refine XS.icmpYes X108.here hx rfl (pc0 := 232) (pc' := 239) rfl (hb hby at_232) rfl (feq (hm1 : ¬ (mo = (1 : Int32)))).2 (by decide) (by decide) ?_
        show own_S p e below T108 m 239 #[oI p0, oI p1, oI p2, oI p3, oI p4, oI k1v, oI k3v, oI jv, oI dlv, oI aev, oJ av, oV, oI px, oI ex, oI iv, oI mo, oJ lv, oV, oJ tx, oV, oJ fv, oV, oJ qx, oV, oJ gv, oV, .val (.double (FP.ddiv (FP.l2d fv) (4629700416936869888 : UInt64))), oV, oR b105, oI 1, oU, oU, oU, oU, oU, oU, oU, oU, oU, oU, oU, oU] [] _
        refine XS.dload X108.here hx rfl (hb hby at_239) rfl ?_
        show own_S p e below T108 m 241 #[oI p0, oI p1, oI p2, oI p3, oI p4, oI k1v, oI k3v, oI jv, oI dlv, oI aev, oJ av, oV, oI px, oI ex, oI iv, oI mo, oJ lv, oV, oJ tx, oV, oJ fv, oV, oJ qx, oV, oJ gv, oV, .val (.double (FP.ddiv (FP.l2d fv) (4629700416936869888 : UInt64))), oV, oR b105, oI 1, oU, oU, oU, oU, oU, oU, oU, oU, oU, oU, oU, oU] [(.double (FP.ddiv (FP.l2d fv) (4629700416936869888 : UInt64)))] _
        refine XS.dstore X108.here hx rfl (hb hby at_241) rfl (l' := #[.val (.int p0), .val (.int p1), .val (.int p2), .val (.int p3), .val (.int p4), .val (.int k1v), .val (.int k3v), .val (.int jv), .val (.int dlv), .val (.int aev), .val (.long av), .second, .val (.int px), .val (.int ex), .val (.int iv), .val (.int mo), .val (.long lv), .second, .val (.long tx), .second, .val (.long fv), .second, .val (.long qx), .second, .val (.long gv), .second, .val (.double (FP.ddiv (FP.l2d fv) (4629700416936869888 : UInt64))), .second, .val (.ref b105), .val (.int 1), .val (.double (FP.ddiv (FP.l2d fv) (4629700416936869888 : UInt64))), .second, .unset, .unset, .unset, .unset, .unset, .unset, .unset, .unset, .unset, .unset]) rfl ?_
        show own_S p e below T108 m 243 #[oI p0, oI p1, oI p2, oI p3, oI p4, oI k1v, oI k3v, oI jv, oI dlv, oI aev, oJ av, oV, oI px, oI ex, oI iv, oI mo, oJ lv, oV, oJ tx, oV, oJ fv, oV, oJ qx, oV, oJ gv, oV, .val (.double (FP.ddiv (FP.l2d fv) (4629700416936869888 : UInt64))), oV, oR b105, oI 1, .val (.double (FP.ddiv (FP.l2d fv) (4629700416936869888 : UInt64))), oV, oU, oU, oU, oU, oU, oU, oU, oU, oU, oU] [] _
        refine XS.iload X108.here hx rfl (hb hby at_243) rfl ?_
        show own_S p e below T108 m 245 #[oI p0, oI p1, oI p2, oI p3, oI p4, oI k1v, oI k3v, oI jv, oI dlv, oI aev, oJ av, oV, oI px, oI ex, oI iv, oI mo, oJ lv, oV, oJ tx, oV, oJ fv, oV, oJ qx, oV, oJ gv, oV, .val (.double (FP.ddiv (FP.l2d fv) (4629700416936869888 : UInt64))), oV, oR b105, oI 1, .val (.double (FP.ddiv (FP.l2d fv) (4629700416936869888 : UInt64))), oV, oU, oU, oU, oU, oU, oU, oU, oU, oU, oU] [(.int mo)] _
        refine XS.iconst X108.here hx rfl (hb hby at_245) ?_
        show own_S p e below T108 m 246 #[oI p0, oI p1, oI p2, oI p3, oI p4, oI k1v, oI k3v, oI jv, oI dlv, oI aev, oJ av, oV, oI px, oI ex, oI iv, oI mo, oJ lv, oV, oJ tx, oV, oJ fv, oV, oJ qx, oV, oJ gv, oV, .val (.double (FP.ddiv (FP.l2d fv) (4629700416936869888 : UInt64))), oV, oR b105, oI 1, .val (.double (FP.ddiv (FP.l2d fv) (4629700416936869888 : UInt64))), oV, oU, oU, oU, oU, oU, oU, oU, oU, oU, oU] [(.int 2), (.int mo)] _
        refine XS.icmpNo X108.here hx rfl (hb hby at_246) rfl (teq (hm2 : mo = (2 : Int32))).2 ?_
        show own_S p e below T108 m 249 #[oI p0, oI p1, oI p2, oI p3, oI p4, oI k1v, oI k3v, oI jv, oI dlv, oI aev, oJ av, oV, oI px, oI ex, oI iv, oI mo, oJ lv, oV, oJ tx, oV, oJ fv, oV, oJ qx, oV, oJ gv, oV, .val (.double (FP.ddiv (FP.l2d fv) (4629700416936869888 : UInt64))), oV, oR b105, oI 1, .val (.double (FP.ddiv (FP.l2d fv) (4629700416936869888 : UInt64))), oV, oU, oU, oU, oU, oU, oU, oU, oU, oU, oU] [] _
        refine XS.dconst0 X108.here hx rfl (v := 0) (hb hby at_249) rfl ?_
        show own_S p e below T108 m 250 #[oI p0, oI p1, oI p2, oI p3, oI p4, oI k1v, oI k3v, oI jv, oI dlv, oI aev, oJ av, oV, oI px, oI ex, oI iv, oI mo, oJ lv, oV, oJ tx, oV, oJ fv, oV, oJ qx, oV, oJ gv, oV, .val (.double (FP.ddiv (FP.l2d fv) (4629700416936869888 : UInt64))), oV, oR b105, oI 1, .val (.double (FP.ddiv (FP.l2d fv) (4629700416936869888 : UInt64))), oV, oU, oU, oU, oU, oU, oU, oU, oU, oU, oU] [(.double 0)] _
        refine XS.goto X108.here hx rfl (pc0 := 250) (pc' := 256) rfl (hb hby at_250) (by decide) (by decide) ?_
        show own_S p e below T108 m 256 #[oI p0, oI p1, oI p2, oI p3, oI p4, oI k1v, oI k3v, oI jv, oI dlv, oI aev, oJ av, oV, oI px, oI ex, oI iv, oI mo, oJ lv, oV, oJ tx, oV, oJ fv, oV, oJ qx, oV, oJ gv, oV, .val (.double (FP.ddiv (FP.l2d fv) (4629700416936869888 : UInt64))), oV, oR b105, oI 1, .val (.double (FP.ddiv (FP.l2d fv) (4629700416936869888 : UInt64))), oV, oU, oU, oU, oU, oU, oU, oU, oU, oU, oU] [(.double 0)] _
        refine XS.dstore X108.here hx rfl (hb hby at_256) rfl (l' := #[.val (.int p0), .val (.int p1), .val (.int p2), .val (.int p3), .val (.int p4), .val (.int k1v), .val (.int k3v), .val (.int jv), .val (.int dlv), .val (.int aev), .val (.long av), .second, .val (.int px), .val (.int ex), .val (.int iv), .val (.int mo), .val (.long lv), .second, .val (.long tx), .second, .val (.long fv), .second, .val (.long qx), .second, .val (.long gv), .second, .val (.double (FP.ddiv (FP.l2d fv) (4629700416936869888 : UInt64))), .second, .val (.ref b105), .val (.int 1), .val (.double (FP.ddiv (FP.l2d fv) (4629700416936869888 : UInt64))), .second, .val (.double 0), .second, .unset, .unset, .unset, .unset, .unset, .unset, .unset, .unset]) rfl ?_
        show own_S p e below T108 m 258 #[oI p0, oI p1, oI p2, oI p3, oI p4, oI k1v, oI k3v, oI jv, oI dlv, oI aev, oJ av, oV, oI px, oI ex, oI iv, oI mo, oJ lv, oV, oJ tx, oV, oJ fv, oV, oJ qx, oV, oJ gv, oV, .val (.double (FP.ddiv (FP.l2d fv) (4629700416936869888 : UInt64))), oV, oR b105, oI 1, .val (.double (FP.ddiv (FP.l2d fv) (4629700416936869888 : UInt64))), oV, oD 0, oV, oU, oU, oU, oU, oU, oU, oU, oU] [] _
        refine XS.iload X108.here hx rfl (hb hby at_258) rfl ?_
        show own_S p e below T108 m 260 #[oI p0, oI p1, oI p2, oI p3, oI p4, oI k1v, oI k3v, oI jv, oI dlv, oI aev, oJ av, oV, oI px, oI ex, oI iv, oI mo, oJ lv, oV, oJ tx, oV, oJ fv, oV, oJ qx, oV, oJ gv, oV, .val (.double (FP.ddiv (FP.l2d fv) (4629700416936869888 : UInt64))), oV, oR b105, oI 1, .val (.double (FP.ddiv (FP.l2d fv) (4629700416936869888 : UInt64))), oV, oD 0, oV, oU, oU, oU, oU, oU, oU, oU, oU] [(.int 1)] _
        refine XS.ifNo X108.here hx rfl (hb hby at_260) rfl ((if0 _ _).trans (feq (by decide : ¬ ((1 : Int32) = (0 : Int32)))).1) ?_
        show own_S p e below T108 m 263 #[oI p0, oI p1, oI p2, oI p3, oI p4, oI k1v, oI k3v, oI jv, oI dlv, oI aev, oJ av, oV, oI px, oI ex, oI iv, oI mo, oJ lv, oV, oJ tx, oV, oJ fv, oV, oJ qx, oV, oJ gv, oV, .val (.double (FP.ddiv (FP.l2d fv) (4629700416936869888 : UInt64))), oV, oR b105, oI 1, .val (.double (FP.ddiv (FP.l2d fv) (4629700416936869888 : UInt64))), oV, oD 0, oV, oU, oU, oU, oU, oU, oU, oU, oU] [] _
        refine XS.iload X108.here hx rfl (hb hby at_263) rfl ?_
        show own_S p e below T108 m 265 #[oI p0, oI p1, oI p2, oI p3, oI p4, oI k1v, oI k3v, oI jv, oI dlv, oI aev, oJ av, oV, oI px, oI ex, oI iv, oI mo, oJ lv, oV, oJ tx, oV, oJ fv, oV, oJ qx, oV, oJ gv, oV, .val (.double (FP.ddiv (FP.l2d fv) (4629700416936869888 : UInt64))), oV, oR b105, oI 1, .val (.double (FP.ddiv (FP.l2d fv) (4629700416936869888 : UInt64))), oV, oD 0, oV, oU, oU, oU, oU, oU, oU, oU, oU] [(.int p4)] _
        refine XS.iconst X108.here hx rfl (hb hby at_265) ?_
        show own_S p e below T108 m 266 #[oI p0, oI p1, oI p2, oI p3, oI p4, oI k1v, oI k3v, oI jv, oI dlv, oI aev, oJ av, oV, oI px, oI ex, oI iv, oI mo, oJ lv, oV, oJ tx, oV, oJ fv, oV, oJ qx, oV, oJ gv, oV, .val (.double (FP.ddiv (FP.l2d fv) (4629700416936869888 : UInt64))), oV, oR b105, oI 1, .val (.double (FP.ddiv (FP.l2d fv) (4629700416936869888 : UInt64))), oV, oD 0, oV, oU, oU, oU, oU, oU, oU, oU, oU] [(.int 4), (.int p4)] _
        refine XS.iand X108.here hx rfl (hb hby at_266) rfl ?_
        exact kt
      by_cases he4 : (p4 &&& (4 : Int32)) = (0 : Int32)
      · skip
        obtain ⟨cq116, kq116, q116a, q116b, q116c⟩ := isOf hZ108 rfl P108_1
        obtain ⟨_, _, ⟨T116, L116, k116, n116⟩, -, X116, ⟨Lc116, hQ116, l116, y116, z116⟩, st116⟩ := X108.virtualBack hx (y := (⟨"com/example/buurt/buurt/model/Bm25", "weight", "(DDDDD)D"⟩ : MethodName)) (z := (⟨"com/example/buurt/buurt/model/Bm25", "weight", "(DDDDD)D"⟩ : MethodName)) how108 (mvT hZ108 (own_w hw 68 rfl)) (mvT hZ108 (own_w hw 69 rfl)) (notFace_of_selects (args := #[]) (mvT hZ108 (own_w hw 71 rfl))) (mvT hZ108 (own_w hw 71 rfl)) (mvT hZ108 (own_w hw 70 rfl)) (by decide) (backOf (W := 0) (rmz2 l Z a0 hw [] b105 (FP.ddiv (FP.l2d fv) (4629700416936869888 : UInt64)) (FP.i2d iv) (FP.i2d dlv) (FP.l2d av) T108.heap n0 ZZ109 cf) hZ108 (own_w hw 72 rfl) (own_w hw 5 rfl) (by decide) (by decide)) q116a q116c (g := (mkF m 293 #[.val (.int p0), .val (.int p1), .val (.int p2), .val (.int p3), .val (.int p4), .val (.int k1v), .val (.int k3v), .val (.int jv), .val (.int dlv), .val (.int aev), .val (.long av), .second, .val (.int px), .val (.int ex), .val (.int iv), .val (.int mo), .val (.long lv), .second, .val (.long tx), .second, .val (.long fv), .second, .val (.long qx), .second, .val (.long gv), .second, .val (.double (FP.ddiv (FP.l2d fv) (4629700416936869888 : UInt64))), .second, .val (.ref b105), .val (.int 1), .val (.double (FP.ddiv (FP.l2d fv) (4629700416936869888 : UInt64))), .second, .val (.double 0), .second, .val (.double (FP.l2d av)), .second, .unset, .unset, .unset, .unset, .unset, .unset] [(.double (FP.l2d av)), (.double (FP.i2d dlv)), (.double (FP.i2d iv)), (.double 0), (.double (FP.ddiv (FP.l2d fv) (4629700416936869888 : UInt64))), (.ref b105)])) rfl (by rw [hml]; rfl) (Steps.refl _) (argsL := [(.double (FP.ddiv (FP.l2d fv) (4629700416936869888 : UInt64))), (.double 0), (.double (FP.i2d iv)), (.double (FP.i2d dlv)), (.double (FP.l2d av))]) (rest := []) (lenOf pd6 rfl) rfl (by show 2 * 0 + _ ≤ _; exact Nat.le_of_eq rfl) (hb hby at_293) (fun _ _ => ⟨rfl, rfl, (by decide : 16 + 0 ≤ _), (by decide : 262 + 0 ≤ _)⟩)
        dsimp only [Pt.U, Pt.locs, Pt.cells, Pt.slots] at X116 l116 y116 z116 st116 hQ116
        subst l116 y116 z116
        obtain ⟨rfl, Nq116, P116_0⟩ := hQ116
        have N116 := Fr.app N108 Nq116
        obtain ⟨fs, hr, hrun, hended, hREW⟩ := X116.leaveW hS108 (by rw [P116_0]; exact (Nat.le_refl _)) (v := some (.int 1)) (fun h => by rw [Bd.returns] at h; cases h)
        refine ⟨_, _, pre0 _ (pre115 _ ?_), hrun, hended, _, _, rfl, ?_, hREW.1, hREW.2.1, hREW.2.2.1, hREW.2.2.2.mono (by decide) (by decide)⟩
        · show own_S p e below T108 m 267 #[oI p0, oI p1, oI p2, oI p3, oI p4, oI k1v, oI k3v, oI jv, oI dlv, oI aev, oJ av, oV, oI px, oI ex, oI iv, oI mo, oJ lv, oV, oJ tx, oV, oJ fv, oV, oJ qx, oV, oJ gv, oV, .val (.double (FP.ddiv (FP.l2d fv) (4629700416936869888 : UInt64))), oV, oR b105, oI 1, .val (.double (FP.ddiv (FP.l2d fv) (4629700416936869888 : UInt64))), oV, oD 0, oV, oU, oU, oU, oU, oU, oU, oU, oU] [(.int (p4 &&& (4 : Int32)))] _
          refine XS.ifYes X108.here hx rfl (pc0 := 267) (pc' := 274) rfl (hb hby at_267) rfl ((if0 _ _).trans (teq (he4 : (p4 &&& (4 : Int32)) = (0 : Int32))).1) (by decide) (by decide) ?_
          show own_S p e below T108 m 274 #[oI p0, oI p1, oI p2, oI p3, oI p4, oI k1v, oI k3v, oI jv, oI dlv, oI aev, oJ av, oV, oI px, oI ex, oI iv, oI mo, oJ lv, oV, oJ tx, oV, oJ fv, oV, oJ qx, oV, oJ gv, oV, .val (.double (FP.ddiv (FP.l2d fv) (4629700416936869888 : UInt64))), oV, oR b105, oI 1, .val (.double (FP.ddiv (FP.l2d fv) (4629700416936869888 : UInt64))), oV, oD 0, oV, oU, oU, oU, oU, oU, oU, oU, oU] [] _
          refine XS.lload X108.here hx rfl (hb hby at_274) rfl ?_
          show own_S p e below T108 m 276 #[oI p0, oI p1, oI p2, oI p3, oI p4, oI k1v, oI k3v, oI jv, oI dlv, oI aev, oJ av, oV, oI px, oI ex, oI iv, oI mo, oJ lv, oV, oJ tx, oV, oJ fv, oV, oJ qx, oV, oJ gv, oV, .val (.double (FP.ddiv (FP.l2d fv) (4629700416936869888 : UInt64))), oV, oR b105, oI 1, .val (.double (FP.ddiv (FP.l2d fv) (4629700416936869888 : UInt64))), oV, oD 0, oV, oU, oU, oU, oU, oU, oU, oU, oU] [(.long av)] _
          refine XS.l2dS X108.here hx rfl (v := (FP.l2d av)) (hb hby at_276) rfl rfl ?_
          show own_S p e below T108 m 277 #[oI p0, oI p1, oI p2, oI p3, oI p4, oI k1v, oI k3v, oI jv, oI dlv, oI aev, oJ av, oV, oI px, oI ex, oI iv, oI mo, oJ lv, oV, oJ tx, oV, oJ fv, oV, oJ qx, oV, oJ gv, oV, .val (.double (FP.ddiv (FP.l2d fv) (4629700416936869888 : UInt64))), oV, oR b105, oI 1, .val (.double (FP.ddiv (FP.l2d fv) (4629700416936869888 : UInt64))), oV, oD 0, oV, oU, oU, oU, oU, oU, oU, oU, oU] [(.double (FP.l2d av))] _
          refine XS.dstore X108.here hx rfl (hb hby at_277) rfl (l' := #[.val (.int p0), .val (.int p1), .val (.int p2), .val (.int p3), .val (.int p4), .val (.int k1v), .val (.int k3v), .val (.int jv), .val (.int dlv), .val (.int aev), .val (.long av), .second, .val (.int px), .val (.int ex), .val (.int iv), .val (.int mo), .val (.long lv), .second, .val (.long tx), .second, .val (.long fv), .second, .val (.long qx), .second, .val (.long gv), .second, .val (.double (FP.ddiv (FP.l2d fv) (4629700416936869888 : UInt64))), .second, .val (.ref b105), .val (.int 1), .val (.double (FP.ddiv (FP.l2d fv) (4629700416936869888 : UInt64))), .second, .val (.double 0), .second, .val (.double (FP.l2d av)), .second, .unset, .unset, .unset, .unset, .unset, .unset]) rfl ?_
          show own_S p e below T108 m 279 #[oI p0, oI p1, oI p2, oI p3, oI p4, oI k1v, oI k3v, oI jv, oI dlv, oI aev, oJ av, oV, oI px, oI ex, oI iv, oI mo, oJ lv, oV, oJ tx, oV, oJ fv, oV, oJ qx, oV, oJ gv, oV, .val (.double (FP.ddiv (FP.l2d fv) (4629700416936869888 : UInt64))), oV, oR b105, oI 1, .val (.double (FP.ddiv (FP.l2d fv) (4629700416936869888 : UInt64))), oV, oD 0, oV, oD (FP.l2d av), oV, oU, oU, oU, oU, oU, oU] [] _
          refine XS.aload X108.here hx rfl (hb hby at_279) rfl rfl ?_
          show own_S p e below T108 m 281 #[oI p0, oI p1, oI p2, oI p3, oI p4, oI k1v, oI k3v, oI jv, oI dlv, oI aev, oJ av, oV, oI px, oI ex, oI iv, oI mo, oJ lv, oV, oJ tx, oV, oJ fv, oV, oJ qx, oV, oJ gv, oV, .val (.double (FP.ddiv (FP.l2d fv) (4629700416936869888 : UInt64))), oV, oR b105, oI 1, .val (.double (FP.ddiv (FP.l2d fv) (4629700416936869888 : UInt64))), oV, oD 0, oV, oD (FP.l2d av), oV, oU, oU, oU, oU, oU, oU] [(.ref b105)] _
          refine XS.dload X108.here hx rfl (hb hby at_281) rfl ?_
          show own_S p e below T108 m 283 #[oI p0, oI p1, oI p2, oI p3, oI p4, oI k1v, oI k3v, oI jv, oI dlv, oI aev, oJ av, oV, oI px, oI ex, oI iv, oI mo, oJ lv, oV, oJ tx, oV, oJ fv, oV, oJ qx, oV, oJ gv, oV, .val (.double (FP.ddiv (FP.l2d fv) (4629700416936869888 : UInt64))), oV, oR b105, oI 1, .val (.double (FP.ddiv (FP.l2d fv) (4629700416936869888 : UInt64))), oV, oD 0, oV, oD (FP.l2d av), oV, oU, oU, oU, oU, oU, oU] [(.double (FP.ddiv (FP.l2d fv) (4629700416936869888 : UInt64))), (.ref b105)] _
          refine XS.dload X108.here hx rfl (hb hby at_283) rfl ?_
          show own_S p e below T108 m 285 #[oI p0, oI p1, oI p2, oI p3, oI p4, oI k1v, oI k3v, oI jv, oI dlv, oI aev, oJ av, oV, oI px, oI ex, oI iv, oI mo, oJ lv, oV, oJ tx, oV, oJ fv, oV, oJ qx, oV, oJ gv, oV, .val (.double (FP.ddiv (FP.l2d fv) (4629700416936869888 : UInt64))), oV, oR b105, oI 1, .val (.double (FP.ddiv (FP.l2d fv) (4629700416936869888 : UInt64))), oV, oD 0, oV, oD (FP.l2d av), oV, oU, oU, oU, oU, oU, oU] [(.double 0), (.double (FP.ddiv (FP.l2d fv) (4629700416936869888 : UInt64))), (.ref b105)] _
          refine XS.iload X108.here hx rfl (hb hby at_285) rfl ?_
          show own_S p e below T108 m 287 #[oI p0, oI p1, oI p2, oI p3, oI p4, oI k1v, oI k3v, oI jv, oI dlv, oI aev, oJ av, oV, oI px, oI ex, oI iv, oI mo, oJ lv, oV, oJ tx, oV, oJ fv, oV, oJ qx, oV, oJ gv, oV, .val (.double (FP.ddiv (FP.l2d fv) (4629700416936869888 : UInt64))), oV, oR b105, oI 1, .val (.double (FP.ddiv (FP.l2d fv) (4629700416936869888 : UInt64))), oV, oD 0, oV, oD (FP.l2d av), oV, oU, oU, oU, oU, oU, oU] [(.int iv), (.double 0), (.double (FP.ddiv (FP.l2d fv) (4629700416936869888 : UInt64))), (.ref b105)] _
          refine XS.i2dS X108.here hx rfl (v := (FP.i2d iv)) (hb hby at_287) rfl rfl ?_
          show own_S p e below T108 m 288 #[oI p0, oI p1, oI p2, oI p3, oI p4, oI k1v, oI k3v, oI jv, oI dlv, oI aev, oJ av, oV, oI px, oI ex, oI iv, oI mo, oJ lv, oV, oJ tx, oV, oJ fv, oV, oJ qx, oV, oJ gv, oV, .val (.double (FP.ddiv (FP.l2d fv) (4629700416936869888 : UInt64))), oV, oR b105, oI 1, .val (.double (FP.ddiv (FP.l2d fv) (4629700416936869888 : UInt64))), oV, oD 0, oV, oD (FP.l2d av), oV, oU, oU, oU, oU, oU, oU] [(.double (FP.i2d iv)), (.double 0), (.double (FP.ddiv (FP.l2d fv) (4629700416936869888 : UInt64))), (.ref b105)] _
          refine XS.iload X108.here hx rfl (hb hby at_288) rfl ?_
          show own_S p e below T108 m 290 #[oI p0, oI p1, oI p2, oI p3, oI p4, oI k1v, oI k3v, oI jv, oI dlv, oI aev, oJ av, oV, oI px, oI ex, oI iv, oI mo, oJ lv, oV, oJ tx, oV, oJ fv, oV, oJ qx, oV, oJ gv, oV, .val (.double (FP.ddiv (FP.l2d fv) (4629700416936869888 : UInt64))), oV, oR b105, oI 1, .val (.double (FP.ddiv (FP.l2d fv) (4629700416936869888 : UInt64))), oV, oD 0, oV, oD (FP.l2d av), oV, oU, oU, oU, oU, oU, oU] [(.int dlv), (.double (FP.i2d iv)), (.double 0), (.double (FP.ddiv (FP.l2d fv) (4629700416936869888 : UInt64))), (.ref b105)] _
          refine XS.i2dS X108.here hx rfl (v := (FP.i2d dlv)) (hb hby at_290) rfl rfl ?_
          show own_S p e below T108 m 291 #[oI p0, oI p1, oI p2, oI p3, oI p4, oI k1v, oI k3v, oI jv, oI dlv, oI aev, oJ av, oV, oI px, oI ex, oI iv, oI mo, oJ lv, oV, oJ tx, oV, oJ fv, oV, oJ qx, oV, oJ gv, oV, .val (.double (FP.ddiv (FP.l2d fv) (4629700416936869888 : UInt64))), oV, oR b105, oI 1, .val (.double (FP.ddiv (FP.l2d fv) (4629700416936869888 : UInt64))), oV, oD 0, oV, oD (FP.l2d av), oV, oU, oU, oU, oU, oU, oU] [(.double (FP.i2d dlv)), (.double (FP.i2d iv)), (.double 0), (.double (FP.ddiv (FP.l2d fv) (4629700416936869888 : UInt64))), (.ref b105)] _
          refine XS.dload X108.here hx rfl (hb hby at_291) rfl ?_
          show own_S p e below T108 m 293 #[oI p0, oI p1, oI p2, oI p3, oI p4, oI k1v, oI k3v, oI jv, oI dlv, oI aev, oJ av, oV, oI px, oI ex, oI iv, oI mo, oJ lv, oV, oJ tx, oV, oJ fv, oV, oJ qx, oV, oJ gv, oV, .val (.double (FP.ddiv (FP.l2d fv) (4629700416936869888 : UInt64))), oV, oR b105, oI 1, .val (.double (FP.ddiv (FP.l2d fv) (4629700416936869888 : UInt64))), oV, oD 0, oV, oD (FP.l2d av), oV, oU, oU, oU, oU, oU, oU] [(.double (FP.l2d av)), (.double (FP.i2d dlv)), (.double (FP.i2d iv)), (.double 0), (.double (FP.ddiv (FP.l2d fv) (4629700416936869888 : UInt64))), (.ref b105)] _
          refine st116.trans ?_
          show own_S p e below T116 m 296 #[oI p0, oI p1, oI p2, oI p3, oI p4, oI k1v, oI k3v, oI jv, oI dlv, oI aev, oJ av, oV, oI px, oI ex, oI iv, oI mo, oJ lv, oV, oJ tx, oV, oJ fv, oV, oJ qx, oV, oJ gv, oV, .val (.double (FP.ddiv (FP.l2d fv) (4629700416936869888 : UInt64))), oV, oR b105, oI 1, .val (.double (FP.ddiv (FP.l2d fv) (4629700416936869888 : UInt64))), oV, oD 0, oV, oD (FP.l2d av), oV, oU, oU, oU, oU, oU, oU] [(.double 0)] _
          refine XS.dstore X116.here hx rfl (hb hby at_296) rfl (l' := #[.val (.int p0), .val (.int p1), .val (.int p2), .val (.int p3), .val (.int p4), .val (.int k1v), .val (.int k3v), .val (.int jv), .val (.int dlv), .val (.int aev), .val (.long av), .second, .val (.int px), .val (.int ex), .val (.int iv), .val (.int mo), .val (.long lv), .second, .val (.long tx), .second, .val (.long fv), .second, .val (.long qx), .second, .val (.long gv), .second, .val (.double (FP.ddiv (FP.l2d fv) (4629700416936869888 : UInt64))), .second, .val (.ref b105), .val (.int 1), .val (.double (FP.ddiv (FP.l2d fv) (4629700416936869888 : UInt64))), .second, .val (.double 0), .second, .val (.double (FP.l2d av)), .second, .val (.double 0), .second, .unset, .unset, .unset, .unset]) rfl ?_
          show own_S p e below T116 m 298 #[oI p0, oI p1, oI p2, oI p3, oI p4, oI k1v, oI k3v, oI jv, oI dlv, oI aev, oJ av, oV, oI px, oI ex, oI iv, oI mo, oJ lv, oV, oJ tx, oV, oJ fv, oV, oJ qx, oV, oJ gv, oV, .val (.double (FP.ddiv (FP.l2d fv) (4629700416936869888 : UInt64))), oV, oR b105, oI 1, .val (.double (FP.ddiv (FP.l2d fv) (4629700416936869888 : UInt64))), oV, oD 0, oV, oD (FP.l2d av), oV, oD 0, oV, oU, oU, oU, oU] [] _
          refine XS.iload X116.here hx rfl (hb hby at_298) rfl ?_
          show own_S p e below T116 m 300 #[oI p0, oI p1, oI p2, oI p3, oI p4, oI k1v, oI k3v, oI jv, oI dlv, oI aev, oJ av, oV, oI px, oI ex, oI iv, oI mo, oJ lv, oV, oJ tx, oV, oJ fv, oV, oJ qx, oV, oJ gv, oV, .val (.double (FP.ddiv (FP.l2d fv) (4629700416936869888 : UInt64))), oV, oR b105, oI 1, .val (.double (FP.ddiv (FP.l2d fv) (4629700416936869888 : UInt64))), oV, oD 0, oV, oD (FP.l2d av), oV, oD 0, oV, oU, oU, oU, oU] [(.int 1)] _
          refine XS.ifNo X116.here hx rfl (hb hby at_300) rfl ((if0 _ _).trans (feq (by decide : ¬ ((1 : Int32) = (0 : Int32)))).1) ?_
          show own_S p e below T116 m 303 #[oI p0, oI p1, oI p2, oI p3, oI p4, oI k1v, oI k3v, oI jv, oI dlv, oI aev, oJ av, oV, oI px, oI ex, oI iv, oI mo, oJ lv, oV, oJ tx, oV, oJ fv, oV, oJ qx, oV, oJ gv, oV, .val (.double (FP.ddiv (FP.l2d fv) (4629700416936869888 : UInt64))), oV, oR b105, oI 1, .val (.double (FP.ddiv (FP.l2d fv) (4629700416936869888 : UInt64))), oV, oD 0, oV, oD (FP.l2d av), oV, oD 0, oV, oU, oU, oU, oU] [] _
          refine XS.dload X116.here hx rfl (hb hby at_303) rfl ?_
          show own_S p e below T116 m 305 #[oI p0, oI p1, oI p2, oI p3, oI p4, oI k1v, oI k3v, oI jv, oI dlv, oI aev, oJ av, oV, oI px, oI ex, oI iv, oI mo, oJ lv, oV, oJ tx, oV, oJ fv, oV, oJ qx, oV, oJ gv, oV, .val (.double (FP.ddiv (FP.l2d fv) (4629700416936869888 : UInt64))), oV, oR b105, oI 1, .val (.double (FP.ddiv (FP.l2d fv) (4629700416936869888 : UInt64))), oV, oD 0, oV, oD (FP.l2d av), oV, oD 0, oV, oU, oU, oU, oU] [(.double 0)] _
          refine XS.dconst0 X116.here hx rfl (v := 0) (hb hby at_305) rfl ?_
          show own_S p e below T116 m 306 #[oI p0, oI p1, oI p2, oI p3, oI p4, oI k1v, oI k3v, oI jv, oI dlv, oI aev, oJ av, oV, oI px, oI ex, oI iv, oI mo, oJ lv, oV, oJ tx, oV, oJ fv, oV, oJ qx, oV, oJ gv, oV, .val (.double (FP.ddiv (FP.l2d fv) (4629700416936869888 : UInt64))), oV, oR b105, oI 1, .val (.double (FP.ddiv (FP.l2d fv) (4629700416936869888 : UInt64))), oV, oD 0, oV, oD (FP.l2d av), oV, oD 0, oV, oU, oU, oU, oU] [(.double 0), (.double 0)] _
          refine XS.dcmpS X116.here hx rfl (v := (0 : Int32)) (hb hby at_306) rfl (by decide +kernel) ?_
          show own_S p e below T116 m 307 #[oI p0, oI p1, oI p2, oI p3, oI p4, oI k1v, oI k3v, oI jv, oI dlv, oI aev, oJ av, oV, oI px, oI ex, oI iv, oI mo, oJ lv, oV, oJ tx, oV, oJ fv, oV, oJ qx, oV, oJ gv, oV, .val (.double (FP.ddiv (FP.l2d fv) (4629700416936869888 : UInt64))), oV, oR b105, oI 1, .val (.double (FP.ddiv (FP.l2d fv) (4629700416936869888 : UInt64))), oV, oD 0, oV, oD (FP.l2d av), oV, oD 0, oV, oU, oU, oU, oU] [(.int 0)] _
          refine XS.ifNo X116.here hx rfl (hb hby at_307) rfl ((if0 _ _).trans (teq (by decide : (0 : Int32) = (0 : Int32))).2) ?_
          show own_S p e below T116 m 310 #[oI p0, oI p1, oI p2, oI p3, oI p4, oI k1v, oI k3v, oI jv, oI dlv, oI aev, oJ av, oV, oI px, oI ex, oI iv, oI mo, oJ lv, oV, oJ tx, oV, oJ fv, oV, oJ qx, oV, oJ gv, oV, .val (.double (FP.ddiv (FP.l2d fv) (4629700416936869888 : UInt64))), oV, oR b105, oI 1, .val (.double (FP.ddiv (FP.l2d fv) (4629700416936869888 : UInt64))), oV, oD 0, oV, oD (FP.l2d av), oV, oD 0, oV, oU, oU, oU, oU] [] _
          refine XS.iconst X116.here hx rfl (hb hby at_310) ?_
          show own_S p e below T116 m 311 #[oI p0, oI p1, oI p2, oI p3, oI p4, oI k1v, oI k3v, oI jv, oI dlv, oI aev, oJ av, oV, oI px, oI ex, oI iv, oI mo, oJ lv, oV, oJ tx, oV, oJ fv, oV, oJ qx, oV, oJ gv, oV, .val (.double (FP.ddiv (FP.l2d fv) (4629700416936869888 : UInt64))), oV, oR b105, oI 1, .val (.double (FP.ddiv (FP.l2d fv) (4629700416936869888 : UInt64))), oV, oD 0, oV, oD (FP.l2d av), oV, oD 0, oV, oU, oU, oU, oU] [(.int 1)] _
          refine XS.goto X116.here hx rfl (pc0 := 311) (pc' := 315) rfl (hb hby at_311) (by decide) (by decide) ?_
          show own_S p e below T116 m 315 #[oI p0, oI p1, oI p2, oI p3, oI p4, oI k1v, oI k3v, oI jv, oI dlv, oI aev, oJ av, oV, oI px, oI ex, oI iv, oI mo, oJ lv, oV, oJ tx, oV, oJ fv, oV, oJ qx, oV, oJ gv, oV, .val (.double (FP.ddiv (FP.l2d fv) (4629700416936869888 : UInt64))), oV, oR b105, oI 1, .val (.double (FP.ddiv (FP.l2d fv) (4629700416936869888 : UInt64))), oV, oD 0, oV, oD (FP.l2d av), oV, oD 0, oV, oU, oU, oU, oU] [(.int 1)] _
          exact retN X116 hx (t := .boolean) Bd.returns (by simp) (hb hby at_315) hr
        · show Qm0 Z p0 p1 p2 p3 p4 h0 n0 _ T116.heap _
          rw [P116_0]
          exact ⟨rfl, N116⟩
      · skip
        obtain ⟨cq117, kq117, q117a, q117b, q117c⟩ := isOf hZ108 rfl P108_1
        obtain ⟨_, _, ⟨T117, L117, k117, n117⟩, -, X117, ⟨Lc117, hQ117, l117, y117, z117⟩, st117⟩ := X108.virtualBack hx (y := (⟨"com/example/buurt/buurt/model/Bm25", "weight", "(DDDDD)D"⟩ : MethodName)) (z := (⟨"com/example/buurt/buurt/model/Bm25", "weight", "(DDDDD)D"⟩ : MethodName)) how108 (mvT hZ108 (own_w hw 68 rfl)) (mvT hZ108 (own_w hw 69 rfl)) (notFace_of_selects (args := #[]) (mvT hZ108 (own_w hw 71 rfl))) (mvT hZ108 (own_w hw 71 rfl)) (mvT hZ108 (own_w hw 70 rfl)) (by decide) (backOf (W := 0) (rmz2 l Z a0 hw [] b105 (FP.ddiv (FP.l2d fv) (4629700416936869888 : UInt64)) (FP.i2d iv) (FP.i2d dlv) (0 : UInt64) T108.heap n0 ZZ109 cf) hZ108 (own_w hw 72 rfl) (own_w hw 5 rfl) (by decide) (by decide)) q117a q117c (g := (mkF m 293 #[.val (.int p0), .val (.int p1), .val (.int p2), .val (.int p3), .val (.int p4), .val (.int k1v), .val (.int k3v), .val (.int jv), .val (.int dlv), .val (.int aev), .val (.long av), .second, .val (.int px), .val (.int ex), .val (.int iv), .val (.int mo), .val (.long lv), .second, .val (.long tx), .second, .val (.long fv), .second, .val (.long qx), .second, .val (.long gv), .second, .val (.double (FP.ddiv (FP.l2d fv) (4629700416936869888 : UInt64))), .second, .val (.ref b105), .val (.int 1), .val (.double (FP.ddiv (FP.l2d fv) (4629700416936869888 : UInt64))), .second, .val (.double 0), .second, .val (.double 0), .second, .unset, .unset, .unset, .unset, .unset, .unset] [(.double 0), (.double (FP.i2d dlv)), (.double (FP.i2d iv)), (.double 0), (.double (FP.ddiv (FP.l2d fv) (4629700416936869888 : UInt64))), (.ref b105)])) rfl (by rw [hml]; rfl) (Steps.refl _) (argsL := [(.double (FP.ddiv (FP.l2d fv) (4629700416936869888 : UInt64))), (.double 0), (.double (FP.i2d iv)), (.double (FP.i2d dlv)), (.double 0)]) (rest := []) (lenOf pd6 rfl) rfl (by show 2 * 0 + _ ≤ _; exact Nat.le_of_eq rfl) (hb hby at_293) (fun _ _ => ⟨rfl, rfl, (by decide : 16 + 0 ≤ _), (by decide : 262 + 0 ≤ _)⟩)
        dsimp only [Pt.U, Pt.locs, Pt.cells, Pt.slots] at X117 l117 y117 z117 st117 hQ117
        subst l117 y117 z117
        obtain ⟨rfl, Nq117, P117_0⟩ := hQ117
        have N117 := Fr.app N108 Nq117
        obtain ⟨fs, hr, hrun, hended, hREW⟩ := X117.leaveW hS108 (by rw [P117_0]; exact (Nat.le_refl _)) (v := some (.int 1)) (fun h => by rw [Bd.returns] at h; cases h)
        refine ⟨_, _, pre0 _ (pre115 _ ?_), hrun, hended, _, _, rfl, ?_, hREW.1, hREW.2.1, hREW.2.2.1, hREW.2.2.2.mono (by decide) (by decide)⟩
        · show own_S p e below T108 m 267 #[oI p0, oI p1, oI p2, oI p3, oI p4, oI k1v, oI k3v, oI jv, oI dlv, oI aev, oJ av, oV, oI px, oI ex, oI iv, oI mo, oJ lv, oV, oJ tx, oV, oJ fv, oV, oJ qx, oV, oJ gv, oV, .val (.double (FP.ddiv (FP.l2d fv) (4629700416936869888 : UInt64))), oV, oR b105, oI 1, .val (.double (FP.ddiv (FP.l2d fv) (4629700416936869888 : UInt64))), oV, oD 0, oV, oU, oU, oU, oU, oU, oU, oU, oU] [(.int (p4 &&& (4 : Int32)))] _
          refine XS.ifNo X108.here hx rfl (hb hby at_267) rfl ((if0 _ _).trans (feq (he4 : ¬ ((p4 &&& (4 : Int32)) = (0 : Int32)))).1) ?_
          show own_S p e below T108 m 270 #[oI p0, oI p1, oI p2, oI p3, oI p4, oI k1v, oI k3v, oI jv, oI dlv, oI aev, oJ av, oV, oI px, oI ex, oI iv, oI mo, oJ lv, oV, oJ tx, oV, oJ fv, oV, oJ qx, oV, oJ gv, oV, .val (.double (FP.ddiv (FP.l2d fv) (4629700416936869888 : UInt64))), oV, oR b105, oI 1, .val (.double (FP.ddiv (FP.l2d fv) (4629700416936869888 : UInt64))), oV, oD 0, oV, oU, oU, oU, oU, oU, oU, oU, oU] [] _
          refine XS.dconst0 X108.here hx rfl (v := 0) (hb hby at_270) rfl ?_
          show own_S p e below T108 m 271 #[oI p0, oI p1, oI p2, oI p3, oI p4, oI k1v, oI k3v, oI jv, oI dlv, oI aev, oJ av, oV, oI px, oI ex, oI iv, oI mo, oJ lv, oV, oJ tx, oV, oJ fv, oV, oJ qx, oV, oJ gv, oV, .val (.double (FP.ddiv (FP.l2d fv) (4629700416936869888 : UInt64))), oV, oR b105, oI 1, .val (.double (FP.ddiv (FP.l2d fv) (4629700416936869888 : UInt64))), oV, oD 0, oV, oU, oU, oU, oU, oU, oU, oU, oU] [(.double 0)] _
          refine XS.goto X108.here hx rfl (pc0 := 271) (pc' := 277) rfl (hb hby at_271) (by decide) (by decide) ?_
          show own_S p e below T108 m 277 #[oI p0, oI p1, oI p2, oI p3, oI p4, oI k1v, oI k3v, oI jv, oI dlv, oI aev, oJ av, oV, oI px, oI ex, oI iv, oI mo, oJ lv, oV, oJ tx, oV, oJ fv, oV, oJ qx, oV, oJ gv, oV, .val (.double (FP.ddiv (FP.l2d fv) (4629700416936869888 : UInt64))), oV, oR b105, oI 1, .val (.double (FP.ddiv (FP.l2d fv) (4629700416936869888 : UInt64))), oV, oD 0, oV, oU, oU, oU, oU, oU, oU, oU, oU] [(.double 0)] _
          refine XS.dstore X108.here hx rfl (hb hby at_277) rfl (l' := #[.val (.int p0), .val (.int p1), .val (.int p2), .val (.int p3), .val (.int p4), .val (.int k1v), .val (.int k3v), .val (.int jv), .val (.int dlv), .val (.int aev), .val (.long av), .second, .val (.int px), .val (.int ex), .val (.int iv), .val (.int mo), .val (.long lv), .second, .val (.long tx), .second, .val (.long fv), .second, .val (.long qx), .second, .val (.long gv), .second, .val (.double (FP.ddiv (FP.l2d fv) (4629700416936869888 : UInt64))), .second, .val (.ref b105), .val (.int 1), .val (.double (FP.ddiv (FP.l2d fv) (4629700416936869888 : UInt64))), .second, .val (.double 0), .second, .val (.double 0), .second, .unset, .unset, .unset, .unset, .unset, .unset]) rfl ?_
          show own_S p e below T108 m 279 #[oI p0, oI p1, oI p2, oI p3, oI p4, oI k1v, oI k3v, oI jv, oI dlv, oI aev, oJ av, oV, oI px, oI ex, oI iv, oI mo, oJ lv, oV, oJ tx, oV, oJ fv, oV, oJ qx, oV, oJ gv, oV, .val (.double (FP.ddiv (FP.l2d fv) (4629700416936869888 : UInt64))), oV, oR b105, oI 1, .val (.double (FP.ddiv (FP.l2d fv) (4629700416936869888 : UInt64))), oV, oD 0, oV, oD 0, oV, oU, oU, oU, oU, oU, oU] [] _
          refine XS.aload X108.here hx rfl (hb hby at_279) rfl rfl ?_
          show own_S p e below T108 m 281 #[oI p0, oI p1, oI p2, oI p3, oI p4, oI k1v, oI k3v, oI jv, oI dlv, oI aev, oJ av, oV, oI px, oI ex, oI iv, oI mo, oJ lv, oV, oJ tx, oV, oJ fv, oV, oJ qx, oV, oJ gv, oV, .val (.double (FP.ddiv (FP.l2d fv) (4629700416936869888 : UInt64))), oV, oR b105, oI 1, .val (.double (FP.ddiv (FP.l2d fv) (4629700416936869888 : UInt64))), oV, oD 0, oV, oD 0, oV, oU, oU, oU, oU, oU, oU] [(.ref b105)] _
          refine XS.dload X108.here hx rfl (hb hby at_281) rfl ?_
          show own_S p e below T108 m 283 #[oI p0, oI p1, oI p2, oI p3, oI p4, oI k1v, oI k3v, oI jv, oI dlv, oI aev, oJ av, oV, oI px, oI ex, oI iv, oI mo, oJ lv, oV, oJ tx, oV, oJ fv, oV, oJ qx, oV, oJ gv, oV, .val (.double (FP.ddiv (FP.l2d fv) (4629700416936869888 : UInt64))), oV, oR b105, oI 1, .val (.double (FP.ddiv (FP.l2d fv) (4629700416936869888 : UInt64))), oV, oD 0, oV, oD 0, oV, oU, oU, oU, oU, oU, oU] [(.double (FP.ddiv (FP.l2d fv) (4629700416936869888 : UInt64))), (.ref b105)] _
          refine XS.dload X108.here hx rfl (hb hby at_283) rfl ?_
          show own_S p e below T108 m 285 #[oI p0, oI p1, oI p2, oI p3, oI p4, oI k1v, oI k3v, oI jv, oI dlv, oI aev, oJ av, oV, oI px, oI ex, oI iv, oI mo, oJ lv, oV, oJ tx, oV, oJ fv, oV, oJ qx, oV, oJ gv, oV, .val (.double (FP.ddiv (FP.l2d fv) (4629700416936869888 : UInt64))), oV, oR b105, oI 1, .val (.double (FP.ddiv (FP.l2d fv) (4629700416936869888 : UInt64))), oV, oD 0, oV, oD 0, oV, oU, oU, oU, oU, oU, oU] [(.double 0), (.double (FP.ddiv (FP.l2d fv) (4629700416936869888 : UInt64))), (.ref b105)] _
          refine XS.iload X108.here hx rfl (hb hby at_285) rfl ?_
          show own_S p e below T108 m 287 #[oI p0, oI p1, oI p2, oI p3, oI p4, oI k1v, oI k3v, oI jv, oI dlv, oI aev, oJ av, oV, oI px, oI ex, oI iv, oI mo, oJ lv, oV, oJ tx, oV, oJ fv, oV, oJ qx, oV, oJ gv, oV, .val (.double (FP.ddiv (FP.l2d fv) (4629700416936869888 : UInt64))), oV, oR b105, oI 1, .val (.double (FP.ddiv (FP.l2d fv) (4629700416936869888 : UInt64))), oV, oD 0, oV, oD 0, oV, oU, oU, oU, oU, oU, oU] [(.int iv), (.double 0), (.double (FP.ddiv (FP.l2d fv) (4629700416936869888 : UInt64))), (.ref b105)] _
          refine XS.i2dS X108.here hx rfl (v := (FP.i2d iv)) (hb hby at_287) rfl rfl ?_
          show own_S p e below T108 m 288 #[oI p0, oI p1, oI p2, oI p3, oI p4, oI k1v, oI k3v, oI jv, oI dlv, oI aev, oJ av, oV, oI px, oI ex, oI iv, oI mo, oJ lv, oV, oJ tx, oV, oJ fv, oV, oJ qx, oV, oJ gv, oV, .val (.double (FP.ddiv (FP.l2d fv) (4629700416936869888 : UInt64))), oV, oR b105, oI 1, .val (.double (FP.ddiv (FP.l2d fv) (4629700416936869888 : UInt64))), oV, oD 0, oV, oD 0, oV, oU, oU, oU, oU, oU, oU] [(.double (FP.i2d iv)), (.double 0), (.double (FP.ddiv (FP.l2d fv) (4629700416936869888 : UInt64))), (.ref b105)] _
          refine XS.iload X108.here hx rfl (hb hby at_288) rfl ?_
          show own_S p e below T108 m 290 #[oI p0, oI p1, oI p2, oI p3, oI p4, oI k1v, oI k3v, oI jv, oI dlv, oI aev, oJ av, oV, oI px, oI ex, oI iv, oI mo, oJ lv, oV, oJ tx, oV, oJ fv, oV, oJ qx, oV, oJ gv, oV, .val (.double (FP.ddiv (FP.l2d fv) (4629700416936869888 : UInt64))), oV, oR b105, oI 1, .val (.double (FP.ddiv (FP.l2d fv) (4629700416936869888 : UInt64))), oV, oD 0, oV, oD 0, oV, oU, oU, oU, oU, oU, oU] [(.int dlv), (.double (FP.i2d iv)), (.double 0), (.double (FP.ddiv (FP.l2d fv) (4629700416936869888 : UInt64))), (.ref b105)] _
          refine XS.i2dS X108.here hx rfl (v := (FP.i2d dlv)) (hb hby at_290) rfl rfl ?_
          show own_S p e below T108 m 291 #[oI p0, oI p1, oI p2, oI p3, oI p4, oI k1v, oI k3v, oI jv, oI dlv, oI aev, oJ av, oV, oI px, oI ex, oI iv, oI mo, oJ lv, oV, oJ tx, oV, oJ fv, oV, oJ qx, oV, oJ gv, oV, .val (.double (FP.ddiv (FP.l2d fv) (4629700416936869888 : UInt64))), oV, oR b105, oI 1, .val (.double (FP.ddiv (FP.l2d fv) (4629700416936869888 : UInt64))), oV, oD 0, oV, oD 0, oV, oU, oU, oU, oU, oU, oU] [(.double (FP.i2d dlv)), (.double (FP.i2d iv)), (.double 0), (.double (FP.ddiv (FP.l2d fv) (4629700416936869888 : UInt64))), (.ref b105)] _
          refine XS.dload X108.here hx rfl (hb hby at_291) rfl ?_
          show own_S p e below T108 m 293 #[oI p0, oI p1, oI p2, oI p3, oI p4, oI k1v, oI k3v, oI jv, oI dlv, oI aev, oJ av, oV, oI px, oI ex, oI iv, oI mo, oJ lv, oV, oJ tx, oV, oJ fv, oV, oJ qx, oV, oJ gv, oV, .val (.double (FP.ddiv (FP.l2d fv) (4629700416936869888 : UInt64))), oV, oR b105, oI 1, .val (.double (FP.ddiv (FP.l2d fv) (4629700416936869888 : UInt64))), oV, oD 0, oV, oD 0, oV, oU, oU, oU, oU, oU, oU] [(.double 0), (.double (FP.i2d dlv)), (.double (FP.i2d iv)), (.double 0), (.double (FP.ddiv (FP.l2d fv) (4629700416936869888 : UInt64))), (.ref b105)] _
          refine st117.trans ?_
          show own_S p e below T117 m 296 #[oI p0, oI p1, oI p2, oI p3, oI p4, oI k1v, oI k3v, oI jv, oI dlv, oI aev, oJ av, oV, oI px, oI ex, oI iv, oI mo, oJ lv, oV, oJ tx, oV, oJ fv, oV, oJ qx, oV, oJ gv, oV, .val (.double (FP.ddiv (FP.l2d fv) (4629700416936869888 : UInt64))), oV, oR b105, oI 1, .val (.double (FP.ddiv (FP.l2d fv) (4629700416936869888 : UInt64))), oV, oD 0, oV, oD 0, oV, oU, oU, oU, oU, oU, oU] [(.double 0)] _
          refine XS.dstore X117.here hx rfl (hb hby at_296) rfl (l' := #[.val (.int p0), .val (.int p1), .val (.int p2), .val (.int p3), .val (.int p4), .val (.int k1v), .val (.int k3v), .val (.int jv), .val (.int dlv), .val (.int aev), .val (.long av), .second, .val (.int px), .val (.int ex), .val (.int iv), .val (.int mo), .val (.long lv), .second, .val (.long tx), .second, .val (.long fv), .second, .val (.long qx), .second, .val (.long gv), .second, .val (.double (FP.ddiv (FP.l2d fv) (4629700416936869888 : UInt64))), .second, .val (.ref b105), .val (.int 1), .val (.double (FP.ddiv (FP.l2d fv) (4629700416936869888 : UInt64))), .second, .val (.double 0), .second, .val (.double 0), .second, .val (.double 0), .second, .unset, .unset, .unset, .unset]) rfl ?_
          show own_S p e below T117 m 298 #[oI p0, oI p1, oI p2, oI p3, oI p4, oI k1v, oI k3v, oI jv, oI dlv, oI aev, oJ av, oV, oI px, oI ex, oI iv, oI mo, oJ lv, oV, oJ tx, oV, oJ fv, oV, oJ qx, oV, oJ gv, oV, .val (.double (FP.ddiv (FP.l2d fv) (4629700416936869888 : UInt64))), oV, oR b105, oI 1, .val (.double (FP.ddiv (FP.l2d fv) (4629700416936869888 : UInt64))), oV, oD 0, oV, oD 0, oV, oD 0, oV, oU, oU, oU, oU] [] _
          refine XS.iload X117.here hx rfl (hb hby at_298) rfl ?_
          show own_S p e below T117 m 300 #[oI p0, oI p1, oI p2, oI p3, oI p4, oI k1v, oI k3v, oI jv, oI dlv, oI aev, oJ av, oV, oI px, oI ex, oI iv, oI mo, oJ lv, oV, oJ tx, oV, oJ fv, oV, oJ qx, oV, oJ gv, oV, .val (.double (FP.ddiv (FP.l2d fv) (4629700416936869888 : UInt64))), oV, oR b105, oI 1, .val (.double (FP.ddiv (FP.l2d fv) (4629700416936869888 : UInt64))), oV, oD 0, oV, oD 0, oV, oD 0, oV, oU, oU, oU, oU] [(.int 1)] _
          refine XS.ifNo X117.here hx rfl (hb hby at_300) rfl ((if0 _ _).trans (feq (by decide : ¬ ((1 : Int32) = (0 : Int32)))).1) ?_
          show own_S p e below T117 m 303 #[oI p0, oI p1, oI p2, oI p3, oI p4, oI k1v, oI k3v, oI jv, oI dlv, oI aev, oJ av, oV, oI px, oI ex, oI iv, oI mo, oJ lv, oV, oJ tx, oV, oJ fv, oV, oJ qx, oV, oJ gv, oV, .val (.double (FP.ddiv (FP.l2d fv) (4629700416936869888 : UInt64))), oV, oR b105, oI 1, .val (.double (FP.ddiv (FP.l2d fv) (4629700416936869888 : UInt64))), oV, oD 0, oV, oD 0, oV, oD 0, oV, oU, oU, oU, oU] [] _
          refine XS.dload X117.here hx rfl (hb hby at_303) rfl ?_
          show own_S p e below T117 m 305 #[oI p0, oI p1, oI p2, oI p3, oI p4, oI k1v, oI k3v, oI jv, oI dlv, oI aev, oJ av, oV, oI px, oI ex, oI iv, oI mo, oJ lv, oV, oJ tx, oV, oJ fv, oV, oJ qx, oV, oJ gv, oV, .val (.double (FP.ddiv (FP.l2d fv) (4629700416936869888 : UInt64))), oV, oR b105, oI 1, .val (.double (FP.ddiv (FP.l2d fv) (4629700416936869888 : UInt64))), oV, oD 0, oV, oD 0, oV, oD 0, oV, oU, oU, oU, oU] [(.double 0)] _
          refine XS.dconst0 X117.here hx rfl (v := 0) (hb hby at_305) rfl ?_
          show own_S p e below T117 m 306 #[oI p0, oI p1, oI p2, oI p3, oI p4, oI k1v, oI k3v, oI jv, oI dlv, oI aev, oJ av, oV, oI px, oI ex, oI iv, oI mo, oJ lv, oV, oJ tx, oV, oJ fv, oV, oJ qx, oV, oJ gv, oV, .val (.double (FP.ddiv (FP.l2d fv) (4629700416936869888 : UInt64))), oV, oR b105, oI 1, .val (.double (FP.ddiv (FP.l2d fv) (4629700416936869888 : UInt64))), oV, oD 0, oV, oD 0, oV, oD 0, oV, oU, oU, oU, oU] [(.double 0), (.double 0)] _
          refine XS.dcmpS X117.here hx rfl (v := (0 : Int32)) (hb hby at_306) rfl (by decide +kernel) ?_
          show own_S p e below T117 m 307 #[oI p0, oI p1, oI p2, oI p3, oI p4, oI k1v, oI k3v, oI jv, oI dlv, oI aev, oJ av, oV, oI px, oI ex, oI iv, oI mo, oJ lv, oV, oJ tx, oV, oJ fv, oV, oJ qx, oV, oJ gv, oV, .val (.double (FP.ddiv (FP.l2d fv) (4629700416936869888 : UInt64))), oV, oR b105, oI 1, .val (.double (FP.ddiv (FP.l2d fv) (4629700416936869888 : UInt64))), oV, oD 0, oV, oD 0, oV, oD 0, oV, oU, oU, oU, oU] [(.int 0)] _
          refine XS.ifNo X117.here hx rfl (hb hby at_307) rfl ((if0 _ _).trans (teq (by decide : (0 : Int32) = (0 : Int32))).2) ?_
          show own_S p e below T117 m 310 #[oI p0, oI p1, oI p2, oI p3, oI p4, oI k1v, oI k3v, oI jv, oI dlv, oI aev, oJ av, oV, oI px, oI ex, oI iv, oI mo, oJ lv, oV, oJ tx, oV, oJ fv, oV, oJ qx, oV, oJ gv, oV, .val (.double (FP.ddiv (FP.l2d fv) (4629700416936869888 : UInt64))), oV, oR b105, oI 1, .val (.double (FP.ddiv (FP.l2d fv) (4629700416936869888 : UInt64))), oV, oD 0, oV, oD 0, oV, oD 0, oV, oU, oU, oU, oU] [] _
          refine XS.iconst X117.here hx rfl (hb hby at_310) ?_
          show own_S p e below T117 m 311 #[oI p0, oI p1, oI p2, oI p3, oI p4, oI k1v, oI k3v, oI jv, oI dlv, oI aev, oJ av, oV, oI px, oI ex, oI iv, oI mo, oJ lv, oV, oJ tx, oV, oJ fv, oV, oJ qx, oV, oJ gv, oV, .val (.double (FP.ddiv (FP.l2d fv) (4629700416936869888 : UInt64))), oV, oR b105, oI 1, .val (.double (FP.ddiv (FP.l2d fv) (4629700416936869888 : UInt64))), oV, oD 0, oV, oD 0, oV, oD 0, oV, oU, oU, oU, oU] [(.int 1)] _
          refine XS.goto X117.here hx rfl (pc0 := 311) (pc' := 315) rfl (hb hby at_311) (by decide) (by decide) ?_
          show own_S p e below T117 m 315 #[oI p0, oI p1, oI p2, oI p3, oI p4, oI k1v, oI k3v, oI jv, oI dlv, oI aev, oJ av, oV, oI px, oI ex, oI iv, oI mo, oJ lv, oV, oJ tx, oV, oJ fv, oV, oJ qx, oV, oJ gv, oV, .val (.double (FP.ddiv (FP.l2d fv) (4629700416936869888 : UInt64))), oV, oR b105, oI 1, .val (.double (FP.ddiv (FP.l2d fv) (4629700416936869888 : UInt64))), oV, oD 0, oV, oD 0, oV, oD 0, oV, oU, oU, oU, oU] [(.int 1)] _
          exact retN X117 hx (t := .boolean) Bd.returns (by simp) (hb hby at_315) hr
        · show Qm0 Z p0 p1 p2 p3 p4 h0 n0 _ T117.heap _
          rw [P117_0]
          exact ⟨rfl, N117⟩
    · skip
      obtain ⟨cq118, kq118, q118a, q118b, q118c⟩ := isOf hZ108 rfl P108_1
      obtain ⟨_, _, ⟨T118, L118, k118, n118⟩, -, X118, ⟨Lc118, hQ118, l118, y118, z118⟩, st118⟩ := X108.virtualBack hx (y := (⟨"com/example/buurt/buurt/model/Bm25", "weight", "(DDDDD)D"⟩ : MethodName)) (z := (⟨"com/example/buurt/buurt/model/Bm25", "weight", "(DDDDD)D"⟩ : MethodName)) how108 (mvT hZ108 (own_w hw 68 rfl)) (mvT hZ108 (own_w hw 69 rfl)) (notFace_of_selects (args := #[]) (mvT hZ108 (own_w hw 71 rfl))) (mvT hZ108 (own_w hw 71 rfl)) (mvT hZ108 (own_w hw 70 rfl)) (by decide) (backOf (W := 0) (rmm10 l Z a0 hw [] b105 (FP.ddiv (FP.l2d fv) (4629700416936869888 : UInt64)) (FP.l2d gv) (FP.i2d iv) (FP.i2d dlv) (FP.l2d av) (FP.i2d k1v) (FP.ddiv (FP.i2d jv) (4616189618054758400 : UInt64)) (FP.i2d k3v) T108.heap n0 ZZ109 P108_2 P108_3 P108_4 cf cg y23 y30 y33 y34 y35 y43 y45 y49 y50 y56 y57 y59 y65 y66 y69) hZ108 (own_w hw 72 rfl) (own_w hw 5 rfl) (by decide) (by decide)) q118a q118c (g := (mkF m 293 #[.val (.int p0), .val (.int p1), .val (.int p2), .val (.int p3), .val (.int p4), .val (.int k1v), .val (.int k3v), .val (.int jv), .val (.int dlv), .val (.int aev), .val (.long av), .second, .val (.int px), .val (.int ex), .val (.int iv), .val (.int mo), .val (.long lv), .second, .val (.long tx), .second, .val (.long fv), .second, .val (.long qx), .second, .val (.long gv), .second, .val (.double (FP.ddiv (FP.l2d fv) (4629700416936869888 : UInt64))), .second, .val (.ref b105), .val (.int 0), .val (.double (FP.ddiv (FP.l2d fv) (4629700416936869888 : UInt64))), .second, .val (.double (FP.l2d gv)), .second, .val (.double (FP.l2d av)), .second, .unset, .unset, .unset, .unset, .unset, .unset] [(.double (FP.l2d av)), (.double (FP.i2d dlv)), (.double (FP.i2d iv)), (.double (FP.l2d gv)), (.double (FP.ddiv (FP.l2d fv) (4629700416936869888 : UInt64))), (.ref b105)])) rfl (by rw [hml]; rfl) (Steps.refl _) (argsL := [(.double (FP.ddiv (FP.l2d fv) (4629700416936869888 : UInt64))), (.double (FP.l2d gv)), (.double (FP.i2d iv)), (.double (FP.i2d dlv)), (.double (FP.l2d av))]) (rest := []) (lenOf pd6 rfl) rfl (by show 2 * 0 + _ ≤ _; exact Nat.le_of_eq rfl) (hb hby at_293) (fun _ _ => ⟨rfl, rfl, (by decide : 16 + 0 ≤ _), (by decide : 262 + 0 ≤ _)⟩)
      dsimp only [Pt.U, Pt.locs, Pt.cells, Pt.slots] at X118 l118 y118 z118 st118 hQ118
      subst l118 y118 z118
      obtain ⟨rfl, Nq118, P118_0⟩ := hQ118
      have N118 := Fr.app N108 Nq118
      obtain ⟨fs, hr, hrun, hended, hREW⟩ := X118.leaveW hS108 (by rw [P118_0]; exact (Nat.le_refl _)) (v := some (.int 1)) (fun h => by rw [Bd.returns] at h; cases h)
      refine ⟨_, _, pre0 _ (pre114 _ ?_), hrun, hended, _, _, rfl, ?_, hREW.1, hREW.2.1, hREW.2.2.1, hREW.2.2.2.mono (by decide) (by decide)⟩
      · show own_S p e below T108 m 219 #[oI p0, oI p1, oI p2, oI p3, oI p4, oI k1v, oI k3v, oI jv, oI dlv, oI aev, oJ av, oV, oI px, oI ex, oI iv, oI mo, oJ lv, oV, oJ tx, oV, oJ fv, oV, oJ qx, oV, oJ gv, oV, .val (.double (FP.ddiv (FP.l2d fv) (4629700416936869888 : UInt64))), oV, oR b105, oU, oU, oU, oU, oU, oU, oU, oU, oU, oU, oU, oU, oU] [(.int 2), (.int mo)] _
        refine XS.icmpYes X108.here hx rfl (pc0 := 219) (pc' := 226) rfl (hb hby at_219) rfl (feq (hm2 : ¬ (mo = (2 : Int32)))).2 (by decide) (by decide) ?_
        show own_S p e below T108 m 226 #[oI p0, oI p1, oI p2, oI p3, oI p4, oI k1v, oI k3v, oI jv, oI dlv, oI aev, oJ av, oV, oI px, oI ex, oI iv, oI mo, oJ lv, oV, oJ tx, oV, oJ fv, oV, oJ qx, oV, oJ gv, oV, .val (.double (FP.ddiv (FP.l2d fv) (4629700416936869888 : UInt64))), oV, oR b105, oU, oU, oU, oU, oU, oU, oU, oU, oU, oU, oU, oU, oU] [] _
        refine XS.iconst X108.here hx rfl (hb hby at_226) ?_
        show own_S p e below T108 m 227 #[oI p0, oI p1, oI p2, oI p3, oI p4, oI k1v, oI k3v, oI jv, oI dlv, oI aev, oJ av, oV, oI px, oI ex, oI iv, oI mo, oJ lv, oV, oJ tx, oV, oJ fv, oV, oJ qx, oV, oJ gv, oV, .val (.double (FP.ddiv (FP.l2d fv) (4629700416936869888 : UInt64))), oV, oR b105, oU, oU, oU, oU, oU, oU, oU, oU, oU, oU, oU, oU, oU] [(.int 0)] _
        refine XS.istore X108.here hx rfl (hb hby at_227) rfl (l' := #[.val (.int p0), .val (.int p1), .val (.int p2), .val (.int p3), .val (.int p4), .val (.int k1v), .val (.int k3v), .val (.int jv), .val (.int dlv), .val (.int aev), .val (.long av), .second, .val (.int px), .val (.int ex), .val (.int iv), .val (.int mo), .val (.long lv), .second, .val (.long tx), .second, .val (.long fv), .second, .val (.long qx), .second, .val (.long gv), .second, .val (.double (FP.ddiv (FP.l2d fv) (4629700416936869888 : UInt64))), .second, .val (.ref b105), .val (.int 0), .unset, .unset, .unset, .unset, .unset, .unset, .unset, .unset, .unset, .unset, .unset, .unset]) rfl ?_
        show own_S p e below T108 m 229 #[oI p0, oI p1, oI p2, oI p3, oI p4, oI k1v, oI k3v, oI jv, oI dlv, oI aev, oJ av, oV, oI px, oI ex, oI iv, oI mo, oJ lv, oV, oJ tx, oV, oJ fv, oV, oJ qx, oV, oJ gv, oV, .val (.double (FP.ddiv (FP.l2d fv) (4629700416936869888 : UInt64))), oV, oR b105, oI 0, oU, oU, oU, oU, oU, oU, oU, oU, oU, oU, oU, oU] [] _
        refine XS.iload X108.here hx rfl (hb hby at_229) rfl ?_
        show own_S p e below T108 m 231 #[oI p0, oI p1, oI p2, oI p3, oI p4, oI k1v, oI k3v, oI jv, oI dlv, oI aev, oJ av, oV, oI px, oI ex, oI iv, oI mo, oJ lv, oV, oJ tx, oV, oJ fv, oV, oJ qx, oV, oJ gv, oV, .val (.double (FP.ddiv (FP.l2d fv) (4629700416936869888 : UInt64))), oV, oR b105, oI 0, oU, oU, oU, oU, oU, oU, oU, oU, oU, oU, oU, oU] [(.int mo)] _
        refine XS.iconst X108.here hx rfl (hb hby at_231) ?_
        show own_S p e below T108 m 232 #[oI p0, oI p1, oI p2, oI p3, oI p4, oI k1v, oI k3v, oI jv, oI dlv, oI aev, oJ av, oV, oI px, oI ex, oI iv, oI mo, oJ lv, oV, oJ tx, oV, oJ fv, oV, oJ qx, oV, oJ gv, oV, .val (.double (FP.ddiv (FP.l2d fv) (4629700416936869888 : UInt64))), oV, oR b105, oI 0, oU, oU, oU, oU, oU, oU, oU, oU, oU, oU, oU, oU] [(.int 1), (.int mo)] _
        refine XS.icmpYes X108.here hx rfl (pc0 := 232) (pc' := 239) rfl (hb hby at_232) rfl (feq (hm1 : ¬ (mo = (1 : Int32)))).2 (by decide) (by decide) ?_
        show own_S p e below T108 m 239 #[oI p0, oI p1, oI p2, oI p3, oI p4, oI k1v, oI k3v, oI jv, oI dlv, oI aev, oJ av, oV, oI px, oI ex, oI iv, oI mo, oJ lv, oV, oJ tx, oV, oJ fv, oV, oJ qx, oV, oJ gv, oV, .val (.double (FP.ddiv (FP.l2d fv) (4629700416936869888 : UInt64))), oV, oR b105, oI 0, oU, oU, oU, oU, oU, oU, oU, oU, oU, oU, oU, oU] [] _
        refine XS.dload X108.here hx rfl (hb hby at_239) rfl ?_
        show own_S p e below T108 m 241 #[oI p0, oI p1, oI p2, oI p3, oI p4, oI k1v, oI k3v, oI jv, oI dlv, oI aev, oJ av, oV, oI px, oI ex, oI iv, oI mo, oJ lv, oV, oJ tx, oV, oJ fv, oV, oJ qx, oV, oJ gv, oV, .val (.double (FP.ddiv (FP.l2d fv) (4629700416936869888 : UInt64))), oV, oR b105, oI 0, oU, oU, oU, oU, oU, oU, oU, oU, oU, oU, oU, oU] [(.double (FP.ddiv (FP.l2d fv) (4629700416936869888 : UInt64)))] _
        refine XS.dstore X108.here hx rfl (hb hby at_241) rfl (l' := #[.val (.int p0), .val (.int p1), .val (.int p2), .val (.int p3), .val (.int p4), .val (.int k1v), .val (.int k3v), .val (.int jv), .val (.int dlv), .val (.int aev), .val (.long av), .second, .val (.int px), .val (.int ex), .val (.int iv), .val (.int mo), .val (.long lv), .second, .val (.long tx), .second, .val (.long fv), .second, .val (.long qx), .second, .val (.long gv), .second, .val (.double (FP.ddiv (FP.l2d fv) (4629700416936869888 : UInt64))), .second, .val (.ref b105), .val (.int 0), .val (.double (FP.ddiv (FP.l2d fv) (4629700416936869888 : UInt64))), .second, .unset, .unset, .unset, .unset, .unset, .unset, .unset, .unset, .unset, .unset]) rfl ?_
        show own_S p e below T108 m 243 #[oI p0, oI p1, oI p2, oI p3, oI p4, oI k1v, oI k3v, oI jv, oI dlv, oI aev, oJ av, oV, oI px, oI ex, oI iv, oI mo, oJ lv, oV, oJ tx, oV, oJ fv, oV, oJ qx, oV, oJ gv, oV, .val (.double (FP.ddiv (FP.l2d fv) (4629700416936869888 : UInt64))), oV, oR b105, oI 0, .val (.double (FP.ddiv (FP.l2d fv) (4629700416936869888 : UInt64))), oV, oU, oU, oU, oU, oU, oU, oU, oU, oU, oU] [] _
        refine XS.iload X108.here hx rfl (hb hby at_243) rfl ?_
        show own_S p e below T108 m 245 #[oI p0, oI p1, oI p2, oI p3, oI p4, oI k1v, oI k3v, oI jv, oI dlv, oI aev, oJ av, oV, oI px, oI ex, oI iv, oI mo, oJ lv, oV, oJ tx, oV, oJ fv, oV, oJ qx, oV, oJ gv, oV, .val (.double (FP.ddiv (FP.l2d fv) (4629700416936869888 : UInt64))), oV, oR b105, oI 0, .val (.double (FP.ddiv (FP.l2d fv) (4629700416936869888 : UInt64))), oV, oU, oU, oU, oU, oU, oU, oU, oU, oU, oU] [(.int mo)] _
        refine XS.iconst X108.here hx rfl (hb hby at_245) ?_
        show own_S p e below T108 m 246 #[oI p0, oI p1, oI p2, oI p3, oI p4, oI k1v, oI k3v, oI jv, oI dlv, oI aev, oJ av, oV, oI px, oI ex, oI iv, oI mo, oJ lv, oV, oJ tx, oV, oJ fv, oV, oJ qx, oV, oJ gv, oV, .val (.double (FP.ddiv (FP.l2d fv) (4629700416936869888 : UInt64))), oV, oR b105, oI 0, .val (.double (FP.ddiv (FP.l2d fv) (4629700416936869888 : UInt64))), oV, oU, oU, oU, oU, oU, oU, oU, oU, oU, oU] [(.int 2), (.int mo)] _
        refine XS.icmpYes X108.here hx rfl (pc0 := 246) (pc' := 253) rfl (hb hby at_246) rfl (feq (hm2 : ¬ (mo = (2 : Int32)))).2 (by decide) (by decide) ?_
        show own_S p e below T108 m 253 #[oI p0, oI p1, oI p2, oI p3, oI p4, oI k1v, oI k3v, oI jv, oI dlv, oI aev, oJ av, oV, oI px, oI ex, oI iv, oI mo, oJ lv, oV, oJ tx, oV, oJ fv, oV, oJ qx, oV, oJ gv, oV, .val (.double (FP.ddiv (FP.l2d fv) (4629700416936869888 : UInt64))), oV, oR b105, oI 0, .val (.double (FP.ddiv (FP.l2d fv) (4629700416936869888 : UInt64))), oV, oU, oU, oU, oU, oU, oU, oU, oU, oU, oU] [] _
        refine XS.lload X108.here hx rfl (hb hby at_253) rfl ?_
        show own_S p e below T108 m 255 #[oI p0, oI p1, oI p2, oI p3, oI p4, oI k1v, oI k3v, oI jv, oI dlv, oI aev, oJ av, oV, oI px, oI ex, oI iv, oI mo, oJ lv, oV, oJ tx, oV, oJ fv, oV, oJ qx, oV, oJ gv, oV, .val (.double (FP.ddiv (FP.l2d fv) (4629700416936869888 : UInt64))), oV, oR b105, oI 0, .val (.double (FP.ddiv (FP.l2d fv) (4629700416936869888 : UInt64))), oV, oU, oU, oU, oU, oU, oU, oU, oU, oU, oU] [(.long gv)] _
        refine XS.l2dS X108.here hx rfl (v := (FP.l2d gv)) (hb hby at_255) rfl rfl ?_
        show own_S p e below T108 m 256 #[oI p0, oI p1, oI p2, oI p3, oI p4, oI k1v, oI k3v, oI jv, oI dlv, oI aev, oJ av, oV, oI px, oI ex, oI iv, oI mo, oJ lv, oV, oJ tx, oV, oJ fv, oV, oJ qx, oV, oJ gv, oV, .val (.double (FP.ddiv (FP.l2d fv) (4629700416936869888 : UInt64))), oV, oR b105, oI 0, .val (.double (FP.ddiv (FP.l2d fv) (4629700416936869888 : UInt64))), oV, oU, oU, oU, oU, oU, oU, oU, oU, oU, oU] [(.double (FP.l2d gv))] _
        refine XS.dstore X108.here hx rfl (hb hby at_256) rfl (l' := #[.val (.int p0), .val (.int p1), .val (.int p2), .val (.int p3), .val (.int p4), .val (.int k1v), .val (.int k3v), .val (.int jv), .val (.int dlv), .val (.int aev), .val (.long av), .second, .val (.int px), .val (.int ex), .val (.int iv), .val (.int mo), .val (.long lv), .second, .val (.long tx), .second, .val (.long fv), .second, .val (.long qx), .second, .val (.long gv), .second, .val (.double (FP.ddiv (FP.l2d fv) (4629700416936869888 : UInt64))), .second, .val (.ref b105), .val (.int 0), .val (.double (FP.ddiv (FP.l2d fv) (4629700416936869888 : UInt64))), .second, .val (.double (FP.l2d gv)), .second, .unset, .unset, .unset, .unset, .unset, .unset, .unset, .unset]) rfl ?_
        show own_S p e below T108 m 258 #[oI p0, oI p1, oI p2, oI p3, oI p4, oI k1v, oI k3v, oI jv, oI dlv, oI aev, oJ av, oV, oI px, oI ex, oI iv, oI mo, oJ lv, oV, oJ tx, oV, oJ fv, oV, oJ qx, oV, oJ gv, oV, .val (.double (FP.ddiv (FP.l2d fv) (4629700416936869888 : UInt64))), oV, oR b105, oI 0, .val (.double (FP.ddiv (FP.l2d fv) (4629700416936869888 : UInt64))), oV, oD (FP.l2d gv), oV, oU, oU, oU, oU, oU, oU, oU, oU] [] _
        refine XS.iload X108.here hx rfl (hb hby at_258) rfl ?_
        show own_S p e below T108 m 260 #[oI p0, oI p1, oI p2, oI p3, oI p4, oI k1v, oI k3v, oI jv, oI dlv, oI aev, oJ av, oV, oI px, oI ex, oI iv, oI mo, oJ lv, oV, oJ tx, oV, oJ fv, oV, oJ qx, oV, oJ gv, oV, .val (.double (FP.ddiv (FP.l2d fv) (4629700416936869888 : UInt64))), oV, oR b105, oI 0, .val (.double (FP.ddiv (FP.l2d fv) (4629700416936869888 : UInt64))), oV, oD (FP.l2d gv), oV, oU, oU, oU, oU, oU, oU, oU, oU] [(.int 0)] _
        refine XS.ifYes X108.here hx rfl (pc0 := 260) (pc' := 274) rfl (hb hby at_260) rfl ((if0 _ _).trans (teq (by decide : (0 : Int32) = (0 : Int32))).1) (by decide) (by decide) ?_
        show own_S p e below T108 m 274 #[oI p0, oI p1, oI p2, oI p3, oI p4, oI k1v, oI k3v, oI jv, oI dlv, oI aev, oJ av, oV, oI px, oI ex, oI iv, oI mo, oJ lv, oV, oJ tx, oV, oJ fv, oV, oJ qx, oV, oJ gv, oV, .val (.double (FP.ddiv (FP.l2d fv) (4629700416936869888 : UInt64))), oV, oR b105, oI 0, .val (.double (FP.ddiv (FP.l2d fv) (4629700416936869888 : UInt64))), oV, oD (FP.l2d gv), oV, oU, oU, oU, oU, oU, oU, oU, oU] [] _
        refine XS.lload X108.here hx rfl (hb hby at_274) rfl ?_
        show own_S p e below T108 m 276 #[oI p0, oI p1, oI p2, oI p3, oI p4, oI k1v, oI k3v, oI jv, oI dlv, oI aev, oJ av, oV, oI px, oI ex, oI iv, oI mo, oJ lv, oV, oJ tx, oV, oJ fv, oV, oJ qx, oV, oJ gv, oV, .val (.double (FP.ddiv (FP.l2d fv) (4629700416936869888 : UInt64))), oV, oR b105, oI 0, .val (.double (FP.ddiv (FP.l2d fv) (4629700416936869888 : UInt64))), oV, oD (FP.l2d gv), oV, oU, oU, oU, oU, oU, oU, oU, oU] [(.long av)] _
        refine XS.l2dS X108.here hx rfl (v := (FP.l2d av)) (hb hby at_276) rfl rfl ?_
        show own_S p e below T108 m 277 #[oI p0, oI p1, oI p2, oI p3, oI p4, oI k1v, oI k3v, oI jv, oI dlv, oI aev, oJ av, oV, oI px, oI ex, oI iv, oI mo, oJ lv, oV, oJ tx, oV, oJ fv, oV, oJ qx, oV, oJ gv, oV, .val (.double (FP.ddiv (FP.l2d fv) (4629700416936869888 : UInt64))), oV, oR b105, oI 0, .val (.double (FP.ddiv (FP.l2d fv) (4629700416936869888 : UInt64))), oV, oD (FP.l2d gv), oV, oU, oU, oU, oU, oU, oU, oU, oU] [(.double (FP.l2d av))] _
        refine XS.dstore X108.here hx rfl (hb hby at_277) rfl (l' := #[.val (.int p0), .val (.int p1), .val (.int p2), .val (.int p3), .val (.int p4), .val (.int k1v), .val (.int k3v), .val (.int jv), .val (.int dlv), .val (.int aev), .val (.long av), .second, .val (.int px), .val (.int ex), .val (.int iv), .val (.int mo), .val (.long lv), .second, .val (.long tx), .second, .val (.long fv), .second, .val (.long qx), .second, .val (.long gv), .second, .val (.double (FP.ddiv (FP.l2d fv) (4629700416936869888 : UInt64))), .second, .val (.ref b105), .val (.int 0), .val (.double (FP.ddiv (FP.l2d fv) (4629700416936869888 : UInt64))), .second, .val (.double (FP.l2d gv)), .second, .val (.double (FP.l2d av)), .second, .unset, .unset, .unset, .unset, .unset, .unset]) rfl ?_
        show own_S p e below T108 m 279 #[oI p0, oI p1, oI p2, oI p3, oI p4, oI k1v, oI k3v, oI jv, oI dlv, oI aev, oJ av, oV, oI px, oI ex, oI iv, oI mo, oJ lv, oV, oJ tx, oV, oJ fv, oV, oJ qx, oV, oJ gv, oV, .val (.double (FP.ddiv (FP.l2d fv) (4629700416936869888 : UInt64))), oV, oR b105, oI 0, .val (.double (FP.ddiv (FP.l2d fv) (4629700416936869888 : UInt64))), oV, oD (FP.l2d gv), oV, oD (FP.l2d av), oV, oU, oU, oU, oU, oU, oU] [] _
        refine XS.aload X108.here hx rfl (hb hby at_279) rfl rfl ?_
        show own_S p e below T108 m 281 #[oI p0, oI p1, oI p2, oI p3, oI p4, oI k1v, oI k3v, oI jv, oI dlv, oI aev, oJ av, oV, oI px, oI ex, oI iv, oI mo, oJ lv, oV, oJ tx, oV, oJ fv, oV, oJ qx, oV, oJ gv, oV, .val (.double (FP.ddiv (FP.l2d fv) (4629700416936869888 : UInt64))), oV, oR b105, oI 0, .val (.double (FP.ddiv (FP.l2d fv) (4629700416936869888 : UInt64))), oV, oD (FP.l2d gv), oV, oD (FP.l2d av), oV, oU, oU, oU, oU, oU, oU] [(.ref b105)] _
        refine XS.dload X108.here hx rfl (hb hby at_281) rfl ?_
        show own_S p e below T108 m 283 #[oI p0, oI p1, oI p2, oI p3, oI p4, oI k1v, oI k3v, oI jv, oI dlv, oI aev, oJ av, oV, oI px, oI ex, oI iv, oI mo, oJ lv, oV, oJ tx, oV, oJ fv, oV, oJ qx, oV, oJ gv, oV, .val (.double (FP.ddiv (FP.l2d fv) (4629700416936869888 : UInt64))), oV, oR b105, oI 0, .val (.double (FP.ddiv (FP.l2d fv) (4629700416936869888 : UInt64))), oV, oD (FP.l2d gv), oV, oD (FP.l2d av), oV, oU, oU, oU, oU, oU, oU] [(.double (FP.ddiv (FP.l2d fv) (4629700416936869888 : UInt64))), (.ref b105)] _
        refine XS.dload X108.here hx rfl (hb hby at_283) rfl ?_
        show own_S p e below T108 m 285 #[oI p0, oI p1, oI p2, oI p3, oI p4, oI k1v, oI k3v, oI jv, oI dlv, oI aev, oJ av, oV, oI px, oI ex, oI iv, oI mo, oJ lv, oV, oJ tx, oV, oJ fv, oV, oJ qx, oV, oJ gv, oV, .val (.double (FP.ddiv (FP.l2d fv) (4629700416936869888 : UInt64))), oV, oR b105, oI 0, .val (.double (FP.ddiv (FP.l2d fv) (4629700416936869888 : UInt64))), oV, oD (FP.l2d gv), oV, oD (FP.l2d av), oV, oU, oU, oU, oU, oU, oU] [(.double (FP.l2d gv)), (.double (FP.ddiv (FP.l2d fv) (4629700416936869888 : UInt64))), (.ref b105)] _
        refine XS.iload X108.here hx rfl (hb hby at_285) rfl ?_
        show own_S p e below T108 m 287 #[oI p0, oI p1, oI p2, oI p3, oI p4, oI k1v, oI k3v, oI jv, oI dlv, oI aev, oJ av, oV, oI px, oI ex, oI iv, oI mo, oJ lv, oV, oJ tx, oV, oJ fv, oV, oJ qx, oV, oJ gv, oV, .val (.double (FP.ddiv (FP.l2d fv) (4629700416936869888 : UInt64))), oV, oR b105, oI 0, .val (.double (FP.ddiv (FP.l2d fv) (4629700416936869888 : UInt64))), oV, oD (FP.l2d gv), oV, oD (FP.l2d av), oV, oU, oU, oU, oU, oU, oU] [(.int iv), (.double (FP.l2d gv)), (.double (FP.ddiv (FP.l2d fv) (4629700416936869888 : UInt64))), (.ref b105)] _
        refine XS.i2dS X108.here hx rfl (v := (FP.i2d iv)) (hb hby at_287) rfl rfl ?_
        show own_S p e below T108 m 288 #[oI p0, oI p1, oI p2, oI p3, oI p4, oI k1v, oI k3v, oI jv, oI dlv, oI aev, oJ av, oV, oI px, oI ex, oI iv, oI mo, oJ lv, oV, oJ tx, oV, oJ fv, oV, oJ qx, oV, oJ gv, oV, .val (.double (FP.ddiv (FP.l2d fv) (4629700416936869888 : UInt64))), oV, oR b105, oI 0, .val (.double (FP.ddiv (FP.l2d fv) (4629700416936869888 : UInt64))), oV, oD (FP.l2d gv), oV, oD (FP.l2d av), oV, oU, oU, oU, oU, oU, oU] [(.double (FP.i2d iv)), (.double (FP.l2d gv)), (.double (FP.ddiv (FP.l2d fv) (4629700416936869888 : UInt64))), (.ref b105)] _
        refine XS.iload X108.here hx rfl (hb hby at_288) rfl ?_
        show own_S p e below T108 m 290 #[oI p0, oI p1, oI p2, oI p3, oI p4, oI k1v, oI k3v, oI jv, oI dlv, oI aev, oJ av, oV, oI px, oI ex, oI iv, oI mo, oJ lv, oV, oJ tx, oV, oJ fv, oV, oJ qx, oV, oJ gv, oV, .val (.double (FP.ddiv (FP.l2d fv) (4629700416936869888 : UInt64))), oV, oR b105, oI 0, .val (.double (FP.ddiv (FP.l2d fv) (4629700416936869888 : UInt64))), oV, oD (FP.l2d gv), oV, oD (FP.l2d av), oV, oU, oU, oU, oU, oU, oU] [(.int dlv), (.double (FP.i2d iv)), (.double (FP.l2d gv)), (.double (FP.ddiv (FP.l2d fv) (4629700416936869888 : UInt64))), (.ref b105)] _
        refine XS.i2dS X108.here hx rfl (v := (FP.i2d dlv)) (hb hby at_290) rfl rfl ?_
        show own_S p e below T108 m 291 #[oI p0, oI p1, oI p2, oI p3, oI p4, oI k1v, oI k3v, oI jv, oI dlv, oI aev, oJ av, oV, oI px, oI ex, oI iv, oI mo, oJ lv, oV, oJ tx, oV, oJ fv, oV, oJ qx, oV, oJ gv, oV, .val (.double (FP.ddiv (FP.l2d fv) (4629700416936869888 : UInt64))), oV, oR b105, oI 0, .val (.double (FP.ddiv (FP.l2d fv) (4629700416936869888 : UInt64))), oV, oD (FP.l2d gv), oV, oD (FP.l2d av), oV, oU, oU, oU, oU, oU, oU] [(.double (FP.i2d dlv)), (.double (FP.i2d iv)), (.double (FP.l2d gv)), (.double (FP.ddiv (FP.l2d fv) (4629700416936869888 : UInt64))), (.ref b105)] _
        refine XS.dload X108.here hx rfl (hb hby at_291) rfl ?_
        show own_S p e below T108 m 293 #[oI p0, oI p1, oI p2, oI p3, oI p4, oI k1v, oI k3v, oI jv, oI dlv, oI aev, oJ av, oV, oI px, oI ex, oI iv, oI mo, oJ lv, oV, oJ tx, oV, oJ fv, oV, oJ qx, oV, oJ gv, oV, .val (.double (FP.ddiv (FP.l2d fv) (4629700416936869888 : UInt64))), oV, oR b105, oI 0, .val (.double (FP.ddiv (FP.l2d fv) (4629700416936869888 : UInt64))), oV, oD (FP.l2d gv), oV, oD (FP.l2d av), oV, oU, oU, oU, oU, oU, oU] [(.double (FP.l2d av)), (.double (FP.i2d dlv)), (.double (FP.i2d iv)), (.double (FP.l2d gv)), (.double (FP.ddiv (FP.l2d fv) (4629700416936869888 : UInt64))), (.ref b105)] _
        refine st118.trans ?_
        show own_S p e below T118 m 296 #[oI p0, oI p1, oI p2, oI p3, oI p4, oI k1v, oI k3v, oI jv, oI dlv, oI aev, oJ av, oV, oI px, oI ex, oI iv, oI mo, oJ lv, oV, oJ tx, oV, oJ fv, oV, oJ qx, oV, oJ gv, oV, .val (.double (FP.ddiv (FP.l2d fv) (4629700416936869888 : UInt64))), oV, oR b105, oI 0, .val (.double (FP.ddiv (FP.l2d fv) (4629700416936869888 : UInt64))), oV, oD (FP.l2d gv), oV, oD (FP.l2d av), oV, oU, oU, oU, oU, oU, oU] [(.double (FP.dmul (FP.ddiv (FP.dmul (FP.dmul (FP.ddiv (FP.dmul (FP.dadd (FP.i2d k1v) (4607182418800017408 : UInt64)) (FP.ddiv (FP.l2d fv) (4629700416936869888 : UInt64))) (FP.dadd (FP.dmul (FP.i2d k1v) (FP.dadd (FP.dsub (4607182418800017408 : UInt64) (FP.ddiv (FP.i2d jv) (4616189618054758400 : UInt64))) (FP.ddiv (FP.dmul (FP.ddiv (FP.i2d jv) (4616189618054758400 : UInt64)) (FP.i2d dlv)) (FP.l2d av)))) (FP.ddiv (FP.l2d fv) (4629700416936869888 : UInt64)))) (FP.dadd (FP.i2d k3v) (4607182418800017408 : UInt64))) (FP.l2d gv)) (FP.dadd (FP.i2d k3v) (FP.l2d gv))) (FP.i2d iv)))] _
        refine XS.dstore X118.here hx rfl (hb hby at_296) rfl (l' := #[.val (.int p0), .val (.int p1), .val (.int p2), .val (.int p3), .val (.int p4), .val (.int k1v), .val (.int k3v), .val (.int jv), .val (.int dlv), .val (.int aev), .val (.long av), .second, .val (.int px), .val (.int ex), .val (.int iv), .val (.int mo), .val (.long lv), .second, .val (.long tx), .second, .val (.long fv), .second, .val (.long qx), .second, .val (.long gv), .second, .val (.double (FP.ddiv (FP.l2d fv) (4629700416936869888 : UInt64))), .second, .val (.ref b105), .val (.int 0), .val (.double (FP.ddiv (FP.l2d fv) (4629700416936869888 : UInt64))), .second, .val (.double (FP.l2d gv)), .second, .val (.double (FP.l2d av)), .second, .val (.double (FP.dmul (FP.ddiv (FP.dmul (FP.dmul (FP.ddiv (FP.dmul (FP.dadd (FP.i2d k1v) (4607182418800017408 : UInt64)) (FP.ddiv (FP.l2d fv) (4629700416936869888 : UInt64))) (FP.dadd (FP.dmul (FP.i2d k1v) (FP.dadd (FP.dsub (4607182418800017408 : UInt64) (FP.ddiv (FP.i2d jv) (4616189618054758400 : UInt64))) (FP.ddiv (FP.dmul (FP.ddiv (FP.i2d jv) (4616189618054758400 : UInt64)) (FP.i2d dlv)) (FP.l2d av)))) (FP.ddiv (FP.l2d fv) (4629700416936869888 : UInt64)))) (FP.dadd (FP.i2d k3v) (4607182418800017408 : UInt64))) (FP.l2d gv)) (FP.dadd (FP.i2d k3v) (FP.l2d gv))) (FP.i2d iv))), .second, .unset, .unset, .unset, .unset]) rfl ?_
        show own_S p e below T118 m 298 #[oI p0, oI p1, oI p2, oI p3, oI p4, oI k1v, oI k3v, oI jv, oI dlv, oI aev, oJ av, oV, oI px, oI ex, oI iv, oI mo, oJ lv, oV, oJ tx, oV, oJ fv, oV, oJ qx, oV, oJ gv, oV, .val (.double (FP.ddiv (FP.l2d fv) (4629700416936869888 : UInt64))), oV, oR b105, oI 0, .val (.double (FP.ddiv (FP.l2d fv) (4629700416936869888 : UInt64))), oV, oD (FP.l2d gv), oV, oD (FP.l2d av), oV, .val (.double (FP.dmul (FP.ddiv (FP.dmul (FP.dmul (FP.ddiv (FP.dmul (FP.dadd (FP.i2d k1v) (4607182418800017408 : UInt64)) (FP.ddiv (FP.l2d fv) (4629700416936869888 : UInt64))) (FP.dadd (FP.dmul (FP.i2d k1v) (FP.dadd (FP.dsub (4607182418800017408 : UInt64) (FP.ddiv (FP.i2d jv) (4616189618054758400 : UInt64))) (FP.ddiv (FP.dmul (FP.ddiv (FP.i2d jv) (4616189618054758400 : UInt64)) (FP.i2d dlv)) (FP.l2d av)))) (FP.ddiv (FP.l2d fv) (4629700416936869888 : UInt64)))) (FP.dadd (FP.i2d k3v) (4607182418800017408 : UInt64))) (FP.l2d gv)) (FP.dadd (FP.i2d k3v) (FP.l2d gv))) (FP.i2d iv))), oV, oU, oU, oU, oU] [] _
        refine XS.iload X118.here hx rfl (hb hby at_298) rfl ?_
        show own_S p e below T118 m 300 #[oI p0, oI p1, oI p2, oI p3, oI p4, oI k1v, oI k3v, oI jv, oI dlv, oI aev, oJ av, oV, oI px, oI ex, oI iv, oI mo, oJ lv, oV, oJ tx, oV, oJ fv, oV, oJ qx, oV, oJ gv, oV, .val (.double (FP.ddiv (FP.l2d fv) (4629700416936869888 : UInt64))), oV, oR b105, oI 0, .val (.double (FP.ddiv (FP.l2d fv) (4629700416936869888 : UInt64))), oV, oD (FP.l2d gv), oV, oD (FP.l2d av), oV, .val (.double (FP.dmul (FP.ddiv (FP.dmul (FP.dmul (FP.ddiv (FP.dmul (FP.dadd (FP.i2d k1v) (4607182418800017408 : UInt64)) (FP.ddiv (FP.l2d fv) (4629700416936869888 : UInt64))) (FP.dadd (FP.dmul (FP.i2d k1v) (FP.dadd (FP.dsub (4607182418800017408 : UInt64) (FP.ddiv (FP.i2d jv) (4616189618054758400 : UInt64))) (FP.ddiv (FP.dmul (FP.ddiv (FP.i2d jv) (4616189618054758400 : UInt64)) (FP.i2d dlv)) (FP.l2d av)))) (FP.ddiv (FP.l2d fv) (4629700416936869888 : UInt64)))) (FP.dadd (FP.i2d k3v) (4607182418800017408 : UInt64))) (FP.l2d gv)) (FP.dadd (FP.i2d k3v) (FP.l2d gv))) (FP.i2d iv))), oV, oU, oU, oU, oU] [(.int 0)] _
        refine XS.ifYes X118.here hx rfl (pc0 := 300) (pc' := 316) rfl (hb hby at_300) rfl ((if0 _ _).trans (teq (by decide : (0 : Int32) = (0 : Int32))).1) (by decide) (by decide) ?_
        show own_S p e below T118 m 316 #[oI p0, oI p1, oI p2, oI p3, oI p4, oI k1v, oI k3v, oI jv, oI dlv, oI aev, oJ av, oV, oI px, oI ex, oI iv, oI mo, oJ lv, oV, oJ tx, oV, oJ fv, oV, oJ qx, oV, oJ gv, oV, .val (.double (FP.ddiv (FP.l2d fv) (4629700416936869888 : UInt64))), oV, oR b105, oI 0, .val (.double (FP.ddiv (FP.l2d fv) (4629700416936869888 : UInt64))), oV, oD (FP.l2d gv), oV, oD (FP.l2d av), oV, .val (.double (FP.dmul (FP.ddiv (FP.dmul (FP.dmul (FP.ddiv (FP.dmul (FP.dadd (FP.i2d k1v) (4607182418800017408 : UInt64)) (FP.ddiv (FP.l2d fv) (4629700416936869888 : UInt64))) (FP.dadd (FP.dmul (FP.i2d k1v) (FP.dadd (FP.dsub (4607182418800017408 : UInt64) (FP.ddiv (FP.i2d jv) (4616189618054758400 : UInt64))) (FP.ddiv (FP.dmul (FP.ddiv (FP.i2d jv) (4616189618054758400 : UInt64)) (FP.i2d dlv)) (FP.l2d av)))) (FP.ddiv (FP.l2d fv) (4629700416936869888 : UInt64)))) (FP.dadd (FP.i2d k3v) (4607182418800017408 : UInt64))) (FP.l2d gv)) (FP.dadd (FP.i2d k3v) (FP.l2d gv))) (FP.i2d iv))), oV, oU, oU, oU, oU] [] _
        refine XS.iload X118.here hx rfl (hb hby at_316) rfl ?_
        show own_S p e below T118 m 318 #[oI p0, oI p1, oI p2, oI p3, oI p4, oI k1v, oI k3v, oI jv, oI dlv, oI aev, oJ av, oV, oI px, oI ex, oI iv, oI mo, oJ lv, oV, oJ tx, oV, oJ fv, oV, oJ qx, oV, oJ gv, oV, .val (.double (FP.ddiv (FP.l2d fv) (4629700416936869888 : UInt64))), oV, oR b105, oI 0, .val (.double (FP.ddiv (FP.l2d fv) (4629700416936869888 : UInt64))), oV, oD (FP.l2d gv), oV, oD (FP.l2d av), oV, .val (.double (FP.dmul (FP.ddiv (FP.dmul (FP.dmul (FP.ddiv (FP.dmul (FP.dadd (FP.i2d k1v) (4607182418800017408 : UInt64)) (FP.ddiv (FP.l2d fv) (4629700416936869888 : UInt64))) (FP.dadd (FP.dmul (FP.i2d k1v) (FP.dadd (FP.dsub (4607182418800017408 : UInt64) (FP.ddiv (FP.i2d jv) (4616189618054758400 : UInt64))) (FP.ddiv (FP.dmul (FP.ddiv (FP.i2d jv) (4616189618054758400 : UInt64)) (FP.i2d dlv)) (FP.l2d av)))) (FP.ddiv (FP.l2d fv) (4629700416936869888 : UInt64)))) (FP.dadd (FP.i2d k3v) (4607182418800017408 : UInt64))) (FP.l2d gv)) (FP.dadd (FP.i2d k3v) (FP.l2d gv))) (FP.i2d iv))), oV, oU, oU, oU, oU] [(.int k1v)] _
        refine XS.iconst X118.here hx rfl (hb hby at_318) ?_
        show own_S p e below T118 m 319 #[oI p0, oI p1, oI p2, oI p3, oI p4, oI k1v, oI k3v, oI jv, oI dlv, oI aev, oJ av, oV, oI px, oI ex, oI iv, oI mo, oJ lv, oV, oJ tx, oV, oJ fv, oV, oJ qx, oV, oJ gv, oV, .val (.double (FP.ddiv (FP.l2d fv) (4629700416936869888 : UInt64))), oV, oR b105, oI 0, .val (.double (FP.ddiv (FP.l2d fv) (4629700416936869888 : UInt64))), oV, oD (FP.l2d gv), oV, oD (FP.l2d av), oV, .val (.double (FP.dmul (FP.ddiv (FP.dmul (FP.dmul (FP.ddiv (FP.dmul (FP.dadd (FP.i2d k1v) (4607182418800017408 : UInt64)) (FP.ddiv (FP.l2d fv) (4629700416936869888 : UInt64))) (FP.dadd (FP.dmul (FP.i2d k1v) (FP.dadd (FP.dsub (4607182418800017408 : UInt64) (FP.ddiv (FP.i2d jv) (4616189618054758400 : UInt64))) (FP.ddiv (FP.dmul (FP.ddiv (FP.i2d jv) (4616189618054758400 : UInt64)) (FP.i2d dlv)) (FP.l2d av)))) (FP.ddiv (FP.l2d fv) (4629700416936869888 : UInt64)))) (FP.dadd (FP.i2d k3v) (4607182418800017408 : UInt64))) (FP.l2d gv)) (FP.dadd (FP.i2d k3v) (FP.l2d gv))) (FP.i2d iv))), oV, oU, oU, oU, oU] [(.int 1), (.int k1v)] _
        refine XS.iadd X118.here hx rfl (hb hby at_319) rfl ?_
        show own_S p e below T118 m 320 #[oI p0, oI p1, oI p2, oI p3, oI p4, oI k1v, oI k3v, oI jv, oI dlv, oI aev, oJ av, oV, oI px, oI ex, oI iv, oI mo, oJ lv, oV, oJ tx, oV, oJ fv, oV, oJ qx, oV, oJ gv, oV, .val (.double (FP.ddiv (FP.l2d fv) (4629700416936869888 : UInt64))), oV, oR b105, oI 0, .val (.double (FP.ddiv (FP.l2d fv) (4629700416936869888 : UInt64))), oV, oD (FP.l2d gv), oV, oD (FP.l2d av), oV, .val (.double (FP.dmul (FP.ddiv (FP.dmul (FP.dmul (FP.ddiv (FP.dmul (FP.dadd (FP.i2d k1v) (4607182418800017408 : UInt64)) (FP.ddiv (FP.l2d fv) (4629700416936869888 : UInt64))) (FP.dadd (FP.dmul (FP.i2d k1v) (FP.dadd (FP.dsub (4607182418800017408 : UInt64) (FP.ddiv (FP.i2d jv) (4616189618054758400 : UInt64))) (FP.ddiv (FP.dmul (FP.ddiv (FP.i2d jv) (4616189618054758400 : UInt64)) (FP.i2d dlv)) (FP.l2d av)))) (FP.ddiv (FP.l2d fv) (4629700416936869888 : UInt64)))) (FP.dadd (FP.i2d k3v) (4607182418800017408 : UInt64))) (FP.l2d gv)) (FP.dadd (FP.i2d k3v) (FP.l2d gv))) (FP.i2d iv))), oV, oU, oU, oU, oU] [(.int (k1v + (1 : Int32)))] _
        refine XS.i2l X118.here hx rfl (hb hby at_320) rfl ?_
        show own_S p e below T118 m 321 #[oI p0, oI p1, oI p2, oI p3, oI p4, oI k1v, oI k3v, oI jv, oI dlv, oI aev, oJ av, oV, oI px, oI ex, oI iv, oI mo, oJ lv, oV, oJ tx, oV, oJ fv, oV, oJ qx, oV, oJ gv, oV, .val (.double (FP.ddiv (FP.l2d fv) (4629700416936869888 : UInt64))), oV, oR b105, oI 0, .val (.double (FP.ddiv (FP.l2d fv) (4629700416936869888 : UInt64))), oV, oD (FP.l2d gv), oV, oD (FP.l2d av), oV, .val (.double (FP.dmul (FP.ddiv (FP.dmul (FP.dmul (FP.ddiv (FP.dmul (FP.dadd (FP.i2d k1v) (4607182418800017408 : UInt64)) (FP.ddiv (FP.l2d fv) (4629700416936869888 : UInt64))) (FP.dadd (FP.dmul (FP.i2d k1v) (FP.dadd (FP.dsub (4607182418800017408 : UInt64) (FP.ddiv (FP.i2d jv) (4616189618054758400 : UInt64))) (FP.ddiv (FP.dmul (FP.ddiv (FP.i2d jv) (4616189618054758400 : UInt64)) (FP.i2d dlv)) (FP.l2d av)))) (FP.ddiv (FP.l2d fv) (4629700416936869888 : UInt64)))) (FP.dadd (FP.i2d k3v) (4607182418800017408 : UInt64))) (FP.l2d gv)) (FP.dadd (FP.i2d k3v) (FP.l2d gv))) (FP.i2d iv))), oV, oU, oU, oU, oU] [(.long ((k1v + (1 : Int32)).toInt64))] _
        refine XS.lload X118.here hx rfl (hb hby at_321) rfl ?_
        show own_S p e below T118 m 323 #[oI p0, oI p1, oI p2, oI p3, oI p4, oI k1v, oI k3v, oI jv, oI dlv, oI aev, oJ av, oV, oI px, oI ex, oI iv, oI mo, oJ lv, oV, oJ tx, oV, oJ fv, oV, oJ qx, oV, oJ gv, oV, .val (.double (FP.ddiv (FP.l2d fv) (4629700416936869888 : UInt64))), oV, oR b105, oI 0, .val (.double (FP.ddiv (FP.l2d fv) (4629700416936869888 : UInt64))), oV, oD (FP.l2d gv), oV, oD (FP.l2d av), oV, .val (.double (FP.dmul (FP.ddiv (FP.dmul (FP.dmul (FP.ddiv (FP.dmul (FP.dadd (FP.i2d k1v) (4607182418800017408 : UInt64)) (FP.ddiv (FP.l2d fv) (4629700416936869888 : UInt64))) (FP.dadd (FP.dmul (FP.i2d k1v) (FP.dadd (FP.dsub (4607182418800017408 : UInt64) (FP.ddiv (FP.i2d jv) (4616189618054758400 : UInt64))) (FP.ddiv (FP.dmul (FP.ddiv (FP.i2d jv) (4616189618054758400 : UInt64)) (FP.i2d dlv)) (FP.l2d av)))) (FP.ddiv (FP.l2d fv) (4629700416936869888 : UInt64)))) (FP.dadd (FP.i2d k3v) (4607182418800017408 : UInt64))) (FP.l2d gv)) (FP.dadd (FP.i2d k3v) (FP.l2d gv))) (FP.i2d iv))), oV, oU, oU, oU, oU] [(.long fv), (.long ((k1v + (1 : Int32)).toInt64))] _
        refine XS.lmul X118.here hx rfl (hb hby at_323) rfl ?_
        show own_S p e below T118 m 324 #[oI p0, oI p1, oI p2, oI p3, oI p4, oI k1v, oI k3v, oI jv, oI dlv, oI aev, oJ av, oV, oI px, oI ex, oI iv, oI mo, oJ lv, oV, oJ tx, oV, oJ fv, oV, oJ qx, oV, oJ gv, oV, .val (.double (FP.ddiv (FP.l2d fv) (4629700416936869888 : UInt64))), oV, oR b105, oI 0, .val (.double (FP.ddiv (FP.l2d fv) (4629700416936869888 : UInt64))), oV, oD (FP.l2d gv), oV, oD (FP.l2d av), oV, .val (.double (FP.dmul (FP.ddiv (FP.dmul (FP.dmul (FP.ddiv (FP.dmul (FP.dadd (FP.i2d k1v) (4607182418800017408 : UInt64)) (FP.ddiv (FP.l2d fv) (4629700416936869888 : UInt64))) (FP.dadd (FP.dmul (FP.i2d k1v) (FP.dadd (FP.dsub (4607182418800017408 : UInt64) (FP.ddiv (FP.i2d jv) (4616189618054758400 : UInt64))) (FP.ddiv (FP.dmul (FP.ddiv (FP.i2d jv) (4616189618054758400 : UInt64)) (FP.i2d dlv)) (FP.l2d av)))) (FP.ddiv (FP.l2d fv) (4629700416936869888 : UInt64)))) (FP.dadd (FP.i2d k3v) (4607182418800017408 : UInt64))) (FP.l2d gv)) (FP.dadd (FP.i2d k3v) (FP.l2d gv))) (FP.i2d iv))), oV, oU, oU, oU, oU] [(.long (((k1v + (1 : Int32)).toInt64) * fv))] _
        refine XS.iload X118.here hx rfl (hb hby at_324) rfl ?_
        show own_S p e below T118 m 326 #[oI p0, oI p1, oI p2, oI p3, oI p4, oI k1v, oI k3v, oI jv, oI dlv, oI aev, oJ av, oV, oI px, oI ex, oI iv, oI mo, oJ lv, oV, oJ tx, oV, oJ fv, oV, oJ qx, oV, oJ gv, oV, .val (.double (FP.ddiv (FP.l2d fv) (4629700416936869888 : UInt64))), oV, oR b105, oI 0, .val (.double (FP.ddiv (FP.l2d fv) (4629700416936869888 : UInt64))), oV, oD (FP.l2d gv), oV, oD (FP.l2d av), oV, .val (.double (FP.dmul (FP.ddiv (FP.dmul (FP.dmul (FP.ddiv (FP.dmul (FP.dadd (FP.i2d k1v) (4607182418800017408 : UInt64)) (FP.ddiv (FP.l2d fv) (4629700416936869888 : UInt64))) (FP.dadd (FP.dmul (FP.i2d k1v) (FP.dadd (FP.dsub (4607182418800017408 : UInt64) (FP.ddiv (FP.i2d jv) (4616189618054758400 : UInt64))) (FP.ddiv (FP.dmul (FP.ddiv (FP.i2d jv) (4616189618054758400 : UInt64)) (FP.i2d dlv)) (FP.l2d av)))) (FP.ddiv (FP.l2d fv) (4629700416936869888 : UInt64)))) (FP.dadd (FP.i2d k3v) (4607182418800017408 : UInt64))) (FP.l2d gv)) (FP.dadd (FP.i2d k3v) (FP.l2d gv))) (FP.i2d iv))), oV, oU, oU, oU, oU] [(.int k3v), (.long (((k1v + (1 : Int32)).toInt64) * fv))] _
        refine XS.iconst X118.here hx rfl (hb hby at_326) ?_
        show own_S p e below T118 m 327 #[oI p0, oI p1, oI p2, oI p3, oI p4, oI k1v, oI k3v, oI jv, oI dlv, oI aev, oJ av, oV, oI px, oI ex, oI iv, oI mo, oJ lv, oV, oJ tx, oV, oJ fv, oV, oJ qx, oV, oJ gv, oV, .val (.double (FP.ddiv (FP.l2d fv) (4629700416936869888 : UInt64))), oV, oR b105, oI 0, .val (.double (FP.ddiv (FP.l2d fv) (4629700416936869888 : UInt64))), oV, oD (FP.l2d gv), oV, oD (FP.l2d av), oV, .val (.double (FP.dmul (FP.ddiv (FP.dmul (FP.dmul (FP.ddiv (FP.dmul (FP.dadd (FP.i2d k1v) (4607182418800017408 : UInt64)) (FP.ddiv (FP.l2d fv) (4629700416936869888 : UInt64))) (FP.dadd (FP.dmul (FP.i2d k1v) (FP.dadd (FP.dsub (4607182418800017408 : UInt64) (FP.ddiv (FP.i2d jv) (4616189618054758400 : UInt64))) (FP.ddiv (FP.dmul (FP.ddiv (FP.i2d jv) (4616189618054758400 : UInt64)) (FP.i2d dlv)) (FP.l2d av)))) (FP.ddiv (FP.l2d fv) (4629700416936869888 : UInt64)))) (FP.dadd (FP.i2d k3v) (4607182418800017408 : UInt64))) (FP.l2d gv)) (FP.dadd (FP.i2d k3v) (FP.l2d gv))) (FP.i2d iv))), oV, oU, oU, oU, oU] [(.int 1), (.int k3v), (.long (((k1v + (1 : Int32)).toInt64) * fv))] _
        refine XS.iadd X118.here hx rfl (hb hby at_327) rfl ?_
        show own_S p e below T118 m 328 #[oI p0, oI p1, oI p2, oI p3, oI p4, oI k1v, oI k3v, oI jv, oI dlv, oI aev, oJ av, oV, oI px, oI ex, oI iv, oI mo, oJ lv, oV, oJ tx, oV, oJ fv, oV, oJ qx, oV, oJ gv, oV, .val (.double (FP.ddiv (FP.l2d fv) (4629700416936869888 : UInt64))), oV, oR b105, oI 0, .val (.double (FP.ddiv (FP.l2d fv) (4629700416936869888 : UInt64))), oV, oD (FP.l2d gv), oV, oD (FP.l2d av), oV, .val (.double (FP.dmul (FP.ddiv (FP.dmul (FP.dmul (FP.ddiv (FP.dmul (FP.dadd (FP.i2d k1v) (4607182418800017408 : UInt64)) (FP.ddiv (FP.l2d fv) (4629700416936869888 : UInt64))) (FP.dadd (FP.dmul (FP.i2d k1v) (FP.dadd (FP.dsub (4607182418800017408 : UInt64) (FP.ddiv (FP.i2d jv) (4616189618054758400 : UInt64))) (FP.ddiv (FP.dmul (FP.ddiv (FP.i2d jv) (4616189618054758400 : UInt64)) (FP.i2d dlv)) (FP.l2d av)))) (FP.ddiv (FP.l2d fv) (4629700416936869888 : UInt64)))) (FP.dadd (FP.i2d k3v) (4607182418800017408 : UInt64))) (FP.l2d gv)) (FP.dadd (FP.i2d k3v) (FP.l2d gv))) (FP.i2d iv))), oV, oU, oU, oU, oU] [(.int (k3v + (1 : Int32))), (.long (((k1v + (1 : Int32)).toInt64) * fv))] _
        refine XS.i2l X118.here hx rfl (hb hby at_328) rfl ?_
        show own_S p e below T118 m 329 #[oI p0, oI p1, oI p2, oI p3, oI p4, oI k1v, oI k3v, oI jv, oI dlv, oI aev, oJ av, oV, oI px, oI ex, oI iv, oI mo, oJ lv, oV, oJ tx, oV, oJ fv, oV, oJ qx, oV, oJ gv, oV, .val (.double (FP.ddiv (FP.l2d fv) (4629700416936869888 : UInt64))), oV, oR b105, oI 0, .val (.double (FP.ddiv (FP.l2d fv) (4629700416936869888 : UInt64))), oV, oD (FP.l2d gv), oV, oD (FP.l2d av), oV, .val (.double (FP.dmul (FP.ddiv (FP.dmul (FP.dmul (FP.ddiv (FP.dmul (FP.dadd (FP.i2d k1v) (4607182418800017408 : UInt64)) (FP.ddiv (FP.l2d fv) (4629700416936869888 : UInt64))) (FP.dadd (FP.dmul (FP.i2d k1v) (FP.dadd (FP.dsub (4607182418800017408 : UInt64) (FP.ddiv (FP.i2d jv) (4616189618054758400 : UInt64))) (FP.ddiv (FP.dmul (FP.ddiv (FP.i2d jv) (4616189618054758400 : UInt64)) (FP.i2d dlv)) (FP.l2d av)))) (FP.ddiv (FP.l2d fv) (4629700416936869888 : UInt64)))) (FP.dadd (FP.i2d k3v) (4607182418800017408 : UInt64))) (FP.l2d gv)) (FP.dadd (FP.i2d k3v) (FP.l2d gv))) (FP.i2d iv))), oV, oU, oU, oU, oU] [(.long ((k3v + (1 : Int32)).toInt64)), (.long (((k1v + (1 : Int32)).toInt64) * fv))] _
        refine XS.lmul X118.here hx rfl (hb hby at_329) rfl ?_
        show own_S p e below T118 m 330 #[oI p0, oI p1, oI p2, oI p3, oI p4, oI k1v, oI k3v, oI jv, oI dlv, oI aev, oJ av, oV, oI px, oI ex, oI iv, oI mo, oJ lv, oV, oJ tx, oV, oJ fv, oV, oJ qx, oV, oJ gv, oV, .val (.double (FP.ddiv (FP.l2d fv) (4629700416936869888 : UInt64))), oV, oR b105, oI 0, .val (.double (FP.ddiv (FP.l2d fv) (4629700416936869888 : UInt64))), oV, oD (FP.l2d gv), oV, oD (FP.l2d av), oV, .val (.double (FP.dmul (FP.ddiv (FP.dmul (FP.dmul (FP.ddiv (FP.dmul (FP.dadd (FP.i2d k1v) (4607182418800017408 : UInt64)) (FP.ddiv (FP.l2d fv) (4629700416936869888 : UInt64))) (FP.dadd (FP.dmul (FP.i2d k1v) (FP.dadd (FP.dsub (4607182418800017408 : UInt64) (FP.ddiv (FP.i2d jv) (4616189618054758400 : UInt64))) (FP.ddiv (FP.dmul (FP.ddiv (FP.i2d jv) (4616189618054758400 : UInt64)) (FP.i2d dlv)) (FP.l2d av)))) (FP.ddiv (FP.l2d fv) (4629700416936869888 : UInt64)))) (FP.dadd (FP.i2d k3v) (4607182418800017408 : UInt64))) (FP.l2d gv)) (FP.dadd (FP.i2d k3v) (FP.l2d gv))) (FP.i2d iv))), oV, oU, oU, oU, oU] [(.long ((((k1v + (1 : Int32)).toInt64) * fv) * ((k3v + (1 : Int32)).toInt64)))] _
        refine XS.lload X118.here hx rfl (hb hby at_330) rfl ?_
        show own_S p e below T118 m 332 #[oI p0, oI p1, oI p2, oI p3, oI p4, oI k1v, oI k3v, oI jv, oI dlv, oI aev, oJ av, oV, oI px, oI ex, oI iv, oI mo, oJ lv, oV, oJ tx, oV, oJ fv, oV, oJ qx, oV, oJ gv, oV, .val (.double (FP.ddiv (FP.l2d fv) (4629700416936869888 : UInt64))), oV, oR b105, oI 0, .val (.double (FP.ddiv (FP.l2d fv) (4629700416936869888 : UInt64))), oV, oD (FP.l2d gv), oV, oD (FP.l2d av), oV, .val (.double (FP.dmul (FP.ddiv (FP.dmul (FP.dmul (FP.ddiv (FP.dmul (FP.dadd (FP.i2d k1v) (4607182418800017408 : UInt64)) (FP.ddiv (FP.l2d fv) (4629700416936869888 : UInt64))) (FP.dadd (FP.dmul (FP.i2d k1v) (FP.dadd (FP.dsub (4607182418800017408 : UInt64) (FP.ddiv (FP.i2d jv) (4616189618054758400 : UInt64))) (FP.ddiv (FP.dmul (FP.ddiv (FP.i2d jv) (4616189618054758400 : UInt64)) (FP.i2d dlv)) (FP.l2d av)))) (FP.ddiv (FP.l2d fv) (4629700416936869888 : UInt64)))) (FP.dadd (FP.i2d k3v) (4607182418800017408 : UInt64))) (FP.l2d gv)) (FP.dadd (FP.i2d k3v) (FP.l2d gv))) (FP.i2d iv))), oV, oU, oU, oU, oU] [(.long gv), (.long ((((k1v + (1 : Int32)).toInt64) * fv) * ((k3v + (1 : Int32)).toInt64)))] _
        refine XS.lmul X118.here hx rfl (hb hby at_332) rfl ?_
        show own_S p e below T118 m 333 #[oI p0, oI p1, oI p2, oI p3, oI p4, oI k1v, oI k3v, oI jv, oI dlv, oI aev, oJ av, oV, oI px, oI ex, oI iv, oI mo, oJ lv, oV, oJ tx, oV, oJ fv, oV, oJ qx, oV, oJ gv, oV, .val (.double (FP.ddiv (FP.l2d fv) (4629700416936869888 : UInt64))), oV, oR b105, oI 0, .val (.double (FP.ddiv (FP.l2d fv) (4629700416936869888 : UInt64))), oV, oD (FP.l2d gv), oV, oD (FP.l2d av), oV, .val (.double (FP.dmul (FP.ddiv (FP.dmul (FP.dmul (FP.ddiv (FP.dmul (FP.dadd (FP.i2d k1v) (4607182418800017408 : UInt64)) (FP.ddiv (FP.l2d fv) (4629700416936869888 : UInt64))) (FP.dadd (FP.dmul (FP.i2d k1v) (FP.dadd (FP.dsub (4607182418800017408 : UInt64) (FP.ddiv (FP.i2d jv) (4616189618054758400 : UInt64))) (FP.ddiv (FP.dmul (FP.ddiv (FP.i2d jv) (4616189618054758400 : UInt64)) (FP.i2d dlv)) (FP.l2d av)))) (FP.ddiv (FP.l2d fv) (4629700416936869888 : UInt64)))) (FP.dadd (FP.i2d k3v) (4607182418800017408 : UInt64))) (FP.l2d gv)) (FP.dadd (FP.i2d k3v) (FP.l2d gv))) (FP.i2d iv))), oV, oU, oU, oU, oU] [(.long (((((k1v + (1 : Int32)).toInt64) * fv) * ((k3v + (1 : Int32)).toInt64)) * gv))] _
        refine XS.iload X118.here hx rfl (hb hby at_333) rfl ?_
        show own_S p e below T118 m 335 #[oI p0, oI p1, oI p2, oI p3, oI p4, oI k1v, oI k3v, oI jv, oI dlv, oI aev, oJ av, oV, oI px, oI ex, oI iv, oI mo, oJ lv, oV, oJ tx, oV, oJ fv, oV, oJ qx, oV, oJ gv, oV, .val (.double (FP.ddiv (FP.l2d fv) (4629700416936869888 : UInt64))), oV, oR b105, oI 0, .val (.double (FP.ddiv (FP.l2d fv) (4629700416936869888 : UInt64))), oV, oD (FP.l2d gv), oV, oD (FP.l2d av), oV, .val (.double (FP.dmul (FP.ddiv (FP.dmul (FP.dmul (FP.ddiv (FP.dmul (FP.dadd (FP.i2d k1v) (4607182418800017408 : UInt64)) (FP.ddiv (FP.l2d fv) (4629700416936869888 : UInt64))) (FP.dadd (FP.dmul (FP.i2d k1v) (FP.dadd (FP.dsub (4607182418800017408 : UInt64) (FP.ddiv (FP.i2d jv) (4616189618054758400 : UInt64))) (FP.ddiv (FP.dmul (FP.ddiv (FP.i2d jv) (4616189618054758400 : UInt64)) (FP.i2d dlv)) (FP.l2d av)))) (FP.ddiv (FP.l2d fv) (4629700416936869888 : UInt64)))) (FP.dadd (FP.i2d k3v) (4607182418800017408 : UInt64))) (FP.l2d gv)) (FP.dadd (FP.i2d k3v) (FP.l2d gv))) (FP.i2d iv))), oV, oU, oU, oU, oU] [(.int iv), (.long (((((k1v + (1 : Int32)).toInt64) * fv) * ((k3v + (1 : Int32)).toInt64)) * gv))] _
        refine XS.i2l X118.here hx rfl (hb hby at_335) rfl ?_
        show own_S p e below T118 m 336 #[oI p0, oI p1, oI p2, oI p3, oI p4, oI k1v, oI k3v, oI jv, oI dlv, oI aev, oJ av, oV, oI px, oI ex, oI iv, oI mo, oJ lv, oV, oJ tx, oV, oJ fv, oV, oJ qx, oV, oJ gv, oV, .val (.double (FP.ddiv (FP.l2d fv) (4629700416936869888 : UInt64))), oV, oR b105, oI 0, .val (.double (FP.ddiv (FP.l2d fv) (4629700416936869888 : UInt64))), oV, oD (FP.l2d gv), oV, oD (FP.l2d av), oV, .val (.double (FP.dmul (FP.ddiv (FP.dmul (FP.dmul (FP.ddiv (FP.dmul (FP.dadd (FP.i2d k1v) (4607182418800017408 : UInt64)) (FP.ddiv (FP.l2d fv) (4629700416936869888 : UInt64))) (FP.dadd (FP.dmul (FP.i2d k1v) (FP.dadd (FP.dsub (4607182418800017408 : UInt64) (FP.ddiv (FP.i2d jv) (4616189618054758400 : UInt64))) (FP.ddiv (FP.dmul (FP.ddiv (FP.i2d jv) (4616189618054758400 : UInt64)) (FP.i2d dlv)) (FP.l2d av)))) (FP.ddiv (FP.l2d fv) (4629700416936869888 : UInt64)))) (FP.dadd (FP.i2d k3v) (4607182418800017408 : UInt64))) (FP.l2d gv)) (FP.dadd (FP.i2d k3v) (FP.l2d gv))) (FP.i2d iv))), oV, oU, oU, oU, oU] [(.long (iv.toInt64)), (.long (((((k1v + (1 : Int32)).toInt64) * fv) * ((k3v + (1 : Int32)).toInt64)) * gv))] _
        refine XS.lmul X118.here hx rfl (hb hby at_336) rfl ?_
        show own_S p e below T118 m 337 #[oI p0, oI p1, oI p2, oI p3, oI p4, oI k1v, oI k3v, oI jv, oI dlv, oI aev, oJ av, oV, oI px, oI ex, oI iv, oI mo, oJ lv, oV, oJ tx, oV, oJ fv, oV, oJ qx, oV, oJ gv, oV, .val (.double (FP.ddiv (FP.l2d fv) (4629700416936869888 : UInt64))), oV, oR b105, oI 0, .val (.double (FP.ddiv (FP.l2d fv) (4629700416936869888 : UInt64))), oV, oD (FP.l2d gv), oV, oD (FP.l2d av), oV, .val (.double (FP.dmul (FP.ddiv (FP.dmul (FP.dmul (FP.ddiv (FP.dmul (FP.dadd (FP.i2d k1v) (4607182418800017408 : UInt64)) (FP.ddiv (FP.l2d fv) (4629700416936869888 : UInt64))) (FP.dadd (FP.dmul (FP.i2d k1v) (FP.dadd (FP.dsub (4607182418800017408 : UInt64) (FP.ddiv (FP.i2d jv) (4616189618054758400 : UInt64))) (FP.ddiv (FP.dmul (FP.ddiv (FP.i2d jv) (4616189618054758400 : UInt64)) (FP.i2d dlv)) (FP.l2d av)))) (FP.ddiv (FP.l2d fv) (4629700416936869888 : UInt64)))) (FP.dadd (FP.i2d k3v) (4607182418800017408 : UInt64))) (FP.l2d gv)) (FP.dadd (FP.i2d k3v) (FP.l2d gv))) (FP.i2d iv))), oV, oU, oU, oU, oU] [(.long ((((((k1v + (1 : Int32)).toInt64) * fv) * ((k3v + (1 : Int32)).toInt64)) * gv) * (iv.toInt64)))] _
        refine reJ (hnv.symm : ((((((k1v + (1 : Int32)).toInt64) * fv) * ((k3v + (1 : Int32)).toInt64)) * gv) * (iv.toInt64)) = nv) ?_
        show own_S p e below T118 m 337 #[oI p0, oI p1, oI p2, oI p3, oI p4, oI k1v, oI k3v, oI jv, oI dlv, oI aev, oJ av, oV, oI px, oI ex, oI iv, oI mo, oJ lv, oV, oJ tx, oV, oJ fv, oV, oJ qx, oV, oJ gv, oV, .val (.double (FP.ddiv (FP.l2d fv) (4629700416936869888 : UInt64))), oV, oR b105, oI 0, .val (.double (FP.ddiv (FP.l2d fv) (4629700416936869888 : UInt64))), oV, oD (FP.l2d gv), oV, oD (FP.l2d av), oV, .val (.double (FP.dmul (FP.ddiv (FP.dmul (FP.dmul (FP.ddiv (FP.dmul (FP.dadd (FP.i2d k1v) (4607182418800017408 : UInt64)) (FP.ddiv (FP.l2d fv) (4629700416936869888 : UInt64))) (FP.dadd (FP.dmul (FP.i2d k1v) (FP.dadd (FP.dsub (4607182418800017408 : UInt64) (FP.ddiv (FP.i2d jv) (4616189618054758400 : UInt64))) (FP.ddiv (FP.dmul (FP.ddiv (FP.i2d jv) (4616189618054758400 : UInt64)) (FP.i2d dlv)) (FP.l2d av)))) (FP.ddiv (FP.l2d fv) (4629700416936869888 : UInt64)))) (FP.dadd (FP.i2d k3v) (4607182418800017408 : UInt64))) (FP.l2d gv)) (FP.dadd (FP.i2d k3v) (FP.l2d gv))) (FP.i2d iv))), oV, oU, oU, oU, oU] [(.long nv)] _
        refine XS.lstore X118.here hx rfl (hb hby at_337) rfl (l' := #[.val (.int p0), .val (.int p1), .val (.int p2), .val (.int p3), .val (.int p4), .val (.int k1v), .val (.int k3v), .val (.int jv), .val (.int dlv), .val (.int aev), .val (.long av), .second, .val (.int px), .val (.int ex), .val (.int iv), .val (.int mo), .val (.long lv), .second, .val (.long tx), .second, .val (.long fv), .second, .val (.long qx), .second, .val (.long gv), .second, .val (.double (FP.ddiv (FP.l2d fv) (4629700416936869888 : UInt64))), .second, .val (.ref b105), .val (.int 0), .val (.double (FP.ddiv (FP.l2d fv) (4629700416936869888 : UInt64))), .second, .val (.double (FP.l2d gv)), .second, .val (.double (FP.l2d av)), .second, .val (.double (FP.dmul (FP.ddiv (FP.dmul (FP.dmul (FP.ddiv (FP.dmul (FP.dadd (FP.i2d k1v) (4607182418800017408 : UInt64)) (FP.ddiv (FP.l2d fv) (4629700416936869888 : UInt64))) (FP.dadd (FP.dmul (FP.i2d k1v) (FP.dadd (FP.dsub (4607182418800017408 : UInt64) (FP.ddiv (FP.i2d jv) (4616189618054758400 : UInt64))) (FP.ddiv (FP.dmul (FP.ddiv (FP.i2d jv) (4616189618054758400 : UInt64)) (FP.i2d dlv)) (FP.l2d av)))) (FP.ddiv (FP.l2d fv) (4629700416936869888 : UInt64)))) (FP.dadd (FP.i2d k3v) (4607182418800017408 : UInt64))) (FP.l2d gv)) (FP.dadd (FP.i2d k3v) (FP.l2d gv))) (FP.i2d iv))), .second, .val (.long nv), .second, .unset, .unset]) rfl ?_
        show own_S p e below T118 m 339 #[oI p0, oI p1, oI p2, oI p3, oI p4, oI k1v, oI k3v, oI jv, oI dlv, oI aev, oJ av, oV, oI px, oI ex, oI iv, oI mo, oJ lv, oV, oJ tx, oV, oJ fv, oV, oJ qx, oV, oJ gv, oV, .val (.double (FP.ddiv (FP.l2d fv) (4629700416936869888 : UInt64))), oV, oR b105, oI 0, .val (.double (FP.ddiv (FP.l2d fv) (4629700416936869888 : UInt64))), oV, oD (FP.l2d gv), oV, oD (FP.l2d av), oV, .val (.double (FP.dmul (FP.ddiv (FP.dmul (FP.dmul (FP.ddiv (FP.dmul (FP.dadd (FP.i2d k1v) (4607182418800017408 : UInt64)) (FP.ddiv (FP.l2d fv) (4629700416936869888 : UInt64))) (FP.dadd (FP.dmul (FP.i2d k1v) (FP.dadd (FP.dsub (4607182418800017408 : UInt64) (FP.ddiv (FP.i2d jv) (4616189618054758400 : UInt64))) (FP.ddiv (FP.dmul (FP.ddiv (FP.i2d jv) (4616189618054758400 : UInt64)) (FP.i2d dlv)) (FP.l2d av)))) (FP.ddiv (FP.l2d fv) (4629700416936869888 : UInt64)))) (FP.dadd (FP.i2d k3v) (4607182418800017408 : UInt64))) (FP.l2d gv)) (FP.dadd (FP.i2d k3v) (FP.l2d gv))) (FP.i2d iv))), oV, oJ nv, oV, oU, oU] [] _
        refine XS.lload X118.here hx rfl (hb hby at_339) rfl ?_
        show own_S p e below T118 m 341 #[oI p0, oI p1, oI p2, oI p3, oI p4, oI k1v, oI k3v, oI jv, oI dlv, oI aev, oJ av, oV, oI px, oI ex, oI iv, oI mo, oJ lv, oV, oJ tx, oV, oJ fv, oV, oJ qx, oV, oJ gv, oV, .val (.double (FP.ddiv (FP.l2d fv) (4629700416936869888 : UInt64))), oV, oR b105, oI 0, .val (.double (FP.ddiv (FP.l2d fv) (4629700416936869888 : UInt64))), oV, oD (FP.l2d gv), oV, oD (FP.l2d av), oV, .val (.double (FP.dmul (FP.ddiv (FP.dmul (FP.dmul (FP.ddiv (FP.dmul (FP.dadd (FP.i2d k1v) (4607182418800017408 : UInt64)) (FP.ddiv (FP.l2d fv) (4629700416936869888 : UInt64))) (FP.dadd (FP.dmul (FP.i2d k1v) (FP.dadd (FP.dsub (4607182418800017408 : UInt64) (FP.ddiv (FP.i2d jv) (4616189618054758400 : UInt64))) (FP.ddiv (FP.dmul (FP.ddiv (FP.i2d jv) (4616189618054758400 : UInt64)) (FP.i2d dlv)) (FP.l2d av)))) (FP.ddiv (FP.l2d fv) (4629700416936869888 : UInt64)))) (FP.dadd (FP.i2d k3v) (4607182418800017408 : UInt64))) (FP.l2d gv)) (FP.dadd (FP.i2d k3v) (FP.l2d gv))) (FP.i2d iv))), oV, oJ nv, oV, oU, oU] [(.long tx)] _
        refine XS.lload X118.here hx rfl (hb hby at_341) rfl ?_
        show own_S p e below T118 m 343 #[oI p0, oI p1, oI p2, oI p3, oI p4, oI k1v, oI k3v, oI jv, oI dlv, oI aev, oJ av, oV, oI px, oI ex, oI iv, oI mo, oJ lv, oV, oJ tx, oV, oJ fv, oV, oJ qx, oV, oJ gv, oV, .val (.double (FP.ddiv (FP.l2d fv) (4629700416936869888 : UInt64))), oV, oR b105, oI 0, .val (.double (FP.ddiv (FP.l2d fv) (4629700416936869888 : UInt64))), oV, oD (FP.l2d gv), oV, oD (FP.l2d av), oV, .val (.double (FP.dmul (FP.ddiv (FP.dmul (FP.dmul (FP.ddiv (FP.dmul (FP.dadd (FP.i2d k1v) (4607182418800017408 : UInt64)) (FP.ddiv (FP.l2d fv) (4629700416936869888 : UInt64))) (FP.dadd (FP.dmul (FP.i2d k1v) (FP.dadd (FP.dsub (4607182418800017408 : UInt64) (FP.ddiv (FP.i2d jv) (4616189618054758400 : UInt64))) (FP.ddiv (FP.dmul (FP.ddiv (FP.i2d jv) (4616189618054758400 : UInt64)) (FP.i2d dlv)) (FP.l2d av)))) (FP.ddiv (FP.l2d fv) (4629700416936869888 : UInt64)))) (FP.dadd (FP.i2d k3v) (4607182418800017408 : UInt64))) (FP.l2d gv)) (FP.dadd (FP.i2d k3v) (FP.l2d gv))) (FP.i2d iv))), oV, oJ nv, oV, oU, oU] [(.long qx), (.long tx)] _
        refine XS.lmul X118.here hx rfl (hb hby at_343) rfl ?_
        show own_S p e below T118 m 344 #[oI p0, oI p1, oI p2, oI p3, oI p4, oI k1v, oI k3v, oI jv, oI dlv, oI aev, oJ av, oV, oI px, oI ex, oI iv, oI mo, oJ lv, oV, oJ tx, oV, oJ fv, oV, oJ qx, oV, oJ gv, oV, .val (.double (FP.ddiv (FP.l2d fv) (4629700416936869888 : UInt64))), oV, oR b105, oI 0, .val (.double (FP.ddiv (FP.l2d fv) (4629700416936869888 : UInt64))), oV, oD (FP.l2d gv), oV, oD (FP.l2d av), oV, .val (.double (FP.dmul (FP.ddiv (FP.dmul (FP.dmul (FP.ddiv (FP.dmul (FP.dadd (FP.i2d k1v) (4607182418800017408 : UInt64)) (FP.ddiv (FP.l2d fv) (4629700416936869888 : UInt64))) (FP.dadd (FP.dmul (FP.i2d k1v) (FP.dadd (FP.dsub (4607182418800017408 : UInt64) (FP.ddiv (FP.i2d jv) (4616189618054758400 : UInt64))) (FP.ddiv (FP.dmul (FP.ddiv (FP.i2d jv) (4616189618054758400 : UInt64)) (FP.i2d dlv)) (FP.l2d av)))) (FP.ddiv (FP.l2d fv) (4629700416936869888 : UInt64)))) (FP.dadd (FP.i2d k3v) (4607182418800017408 : UInt64))) (FP.l2d gv)) (FP.dadd (FP.i2d k3v) (FP.l2d gv))) (FP.i2d iv))), oV, oJ nv, oV, oU, oU] [(.long (tx * qx))] _
        refine reJ (hdn.symm : (tx * qx) = dn) ?_
        show own_S p e below T118 m 344 #[oI p0, oI p1, oI p2, oI p3, oI p4, oI k1v, oI k3v, oI jv, oI dlv, oI aev, oJ av, oV, oI px, oI ex, oI iv, oI mo, oJ lv, oV, oJ tx, oV, oJ fv, oV, oJ qx, oV, oJ gv, oV, .val (.double (FP.ddiv (FP.l2d fv) (4629700416936869888 : UInt64))), oV, oR b105, oI 0, .val (.double (FP.ddiv (FP.l2d fv) (4629700416936869888 : UInt64))), oV, oD (FP.l2d gv), oV, oD (FP.l2d av), oV, .val (.double (FP.dmul (FP.ddiv (FP.dmul (FP.dmul (FP.ddiv (FP.dmul (FP.dadd (FP.i2d k1v) (4607182418800017408 : UInt64)) (FP.ddiv (FP.l2d fv) (4629700416936869888 : UInt64))) (FP.dadd (FP.dmul (FP.i2d k1v) (FP.dadd (FP.dsub (4607182418800017408 : UInt64) (FP.ddiv (FP.i2d jv) (4616189618054758400 : UInt64))) (FP.ddiv (FP.dmul (FP.ddiv (FP.i2d jv) (4616189618054758400 : UInt64)) (FP.i2d dlv)) (FP.l2d av)))) (FP.ddiv (FP.l2d fv) (4629700416936869888 : UInt64)))) (FP.dadd (FP.i2d k3v) (4607182418800017408 : UInt64))) (FP.l2d gv)) (FP.dadd (FP.i2d k3v) (FP.l2d gv))) (FP.i2d iv))), oV, oJ nv, oV, oU, oU] [(.long dn)] _
        refine XS.lstore X118.here hx rfl (hb hby at_344) rfl (l' := #[.val (.int p0), .val (.int p1), .val (.int p2), .val (.int p3), .val (.int p4), .val (.int k1v), .val (.int k3v), .val (.int jv), .val (.int dlv), .val (.int aev), .val (.long av), .second, .val (.int px), .val (.int ex), .val (.int iv), .val (.int mo), .val (.long lv), .second, .val (.long tx), .second, .val (.long fv), .second, .val (.long qx), .second, .val (.long gv), .second, .val (.double (FP.ddiv (FP.l2d fv) (4629700416936869888 : UInt64))), .second, .val (.ref b105), .val (.int 0), .val (.double (FP.ddiv (FP.l2d fv) (4629700416936869888 : UInt64))), .second, .val (.double (FP.l2d gv)), .second, .val (.double (FP.l2d av)), .second, .val (.double (FP.dmul (FP.ddiv (FP.dmul (FP.dmul (FP.ddiv (FP.dmul (FP.dadd (FP.i2d k1v) (4607182418800017408 : UInt64)) (FP.ddiv (FP.l2d fv) (4629700416936869888 : UInt64))) (FP.dadd (FP.dmul (FP.i2d k1v) (FP.dadd (FP.dsub (4607182418800017408 : UInt64) (FP.ddiv (FP.i2d jv) (4616189618054758400 : UInt64))) (FP.ddiv (FP.dmul (FP.ddiv (FP.i2d jv) (4616189618054758400 : UInt64)) (FP.i2d dlv)) (FP.l2d av)))) (FP.ddiv (FP.l2d fv) (4629700416936869888 : UInt64)))) (FP.dadd (FP.i2d k3v) (4607182418800017408 : UInt64))) (FP.l2d gv)) (FP.dadd (FP.i2d k3v) (FP.l2d gv))) (FP.i2d iv))), .second, .val (.long nv), .second, .val (.long dn), .second]) rfl ?_
        show own_S p e below T118 m 346 #[oI p0, oI p1, oI p2, oI p3, oI p4, oI k1v, oI k3v, oI jv, oI dlv, oI aev, oJ av, oV, oI px, oI ex, oI iv, oI mo, oJ lv, oV, oJ tx, oV, oJ fv, oV, oJ qx, oV, oJ gv, oV, .val (.double (FP.ddiv (FP.l2d fv) (4629700416936869888 : UInt64))), oV, oR b105, oI 0, .val (.double (FP.ddiv (FP.l2d fv) (4629700416936869888 : UInt64))), oV, oD (FP.l2d gv), oV, oD (FP.l2d av), oV, .val (.double (FP.dmul (FP.ddiv (FP.dmul (FP.dmul (FP.ddiv (FP.dmul (FP.dadd (FP.i2d k1v) (4607182418800017408 : UInt64)) (FP.ddiv (FP.l2d fv) (4629700416936869888 : UInt64))) (FP.dadd (FP.dmul (FP.i2d k1v) (FP.dadd (FP.dsub (4607182418800017408 : UInt64) (FP.ddiv (FP.i2d jv) (4616189618054758400 : UInt64))) (FP.ddiv (FP.dmul (FP.ddiv (FP.i2d jv) (4616189618054758400 : UInt64)) (FP.i2d dlv)) (FP.l2d av)))) (FP.ddiv (FP.l2d fv) (4629700416936869888 : UInt64)))) (FP.dadd (FP.i2d k3v) (4607182418800017408 : UInt64))) (FP.l2d gv)) (FP.dadd (FP.i2d k3v) (FP.l2d gv))) (FP.i2d iv))), oV, oJ nv, oV, oJ dn, oV] [] _
        refine XS.dload X118.here hx rfl (hb hby at_346) rfl ?_
        show own_S p e below T118 m 348 #[oI p0, oI p1, oI p2, oI p3, oI p4, oI k1v, oI k3v, oI jv, oI dlv, oI aev, oJ av, oV, oI px, oI ex, oI iv, oI mo, oJ lv, oV, oJ tx, oV, oJ fv, oV, oJ qx, oV, oJ gv, oV, .val (.double (FP.ddiv (FP.l2d fv) (4629700416936869888 : UInt64))), oV, oR b105, oI 0, .val (.double (FP.ddiv (FP.l2d fv) (4629700416936869888 : UInt64))), oV, oD (FP.l2d gv), oV, oD (FP.l2d av), oV, .val (.double (FP.dmul (FP.ddiv (FP.dmul (FP.dmul (FP.ddiv (FP.dmul (FP.dadd (FP.i2d k1v) (4607182418800017408 : UInt64)) (FP.ddiv (FP.l2d fv) (4629700416936869888 : UInt64))) (FP.dadd (FP.dmul (FP.i2d k1v) (FP.dadd (FP.dsub (4607182418800017408 : UInt64) (FP.ddiv (FP.i2d jv) (4616189618054758400 : UInt64))) (FP.ddiv (FP.dmul (FP.ddiv (FP.i2d jv) (4616189618054758400 : UInt64)) (FP.i2d dlv)) (FP.l2d av)))) (FP.ddiv (FP.l2d fv) (4629700416936869888 : UInt64)))) (FP.dadd (FP.i2d k3v) (4607182418800017408 : UInt64))) (FP.l2d gv)) (FP.dadd (FP.i2d k3v) (FP.l2d gv))) (FP.i2d iv))), oV, oJ nv, oV, oJ dn, oV] [(.double (FP.dmul (FP.ddiv (FP.dmul (FP.dmul (FP.ddiv (FP.dmul (FP.dadd (FP.i2d k1v) (4607182418800017408 : UInt64)) (FP.ddiv (FP.l2d fv) (4629700416936869888 : UInt64))) (FP.dadd (FP.dmul (FP.i2d k1v) (FP.dadd (FP.dsub (4607182418800017408 : UInt64) (FP.ddiv (FP.i2d jv) (4616189618054758400 : UInt64))) (FP.ddiv (FP.dmul (FP.ddiv (FP.i2d jv) (4616189618054758400 : UInt64)) (FP.i2d dlv)) (FP.l2d av)))) (FP.ddiv (FP.l2d fv) (4629700416936869888 : UInt64)))) (FP.dadd (FP.i2d k3v) (4607182418800017408 : UInt64))) (FP.l2d gv)) (FP.dadd (FP.i2d k3v) (FP.l2d gv))) (FP.i2d iv)))] _
        refine XS.lload X118.here hx rfl (hb hby at_348) rfl ?_
        show own_S p e below T118 m 350 #[oI p0, oI p1, oI p2, oI p3, oI p4, oI k1v, oI k3v, oI jv, oI dlv, oI aev, oJ av, oV, oI px, oI ex, oI iv, oI mo, oJ lv, oV, oJ tx, oV, oJ fv, oV, oJ qx, oV, oJ gv, oV, .val (.double (FP.ddiv (FP.l2d fv) (4629700416936869888 : UInt64))), oV, oR b105, oI 0, .val (.double (FP.ddiv (FP.l2d fv) (4629700416936869888 : UInt64))), oV, oD (FP.l2d gv), oV, oD (FP.l2d av), oV, .val (.double (FP.dmul (FP.ddiv (FP.dmul (FP.dmul (FP.ddiv (FP.dmul (FP.dadd (FP.i2d k1v) (4607182418800017408 : UInt64)) (FP.ddiv (FP.l2d fv) (4629700416936869888 : UInt64))) (FP.dadd (FP.dmul (FP.i2d k1v) (FP.dadd (FP.dsub (4607182418800017408 : UInt64) (FP.ddiv (FP.i2d jv) (4616189618054758400 : UInt64))) (FP.ddiv (FP.dmul (FP.ddiv (FP.i2d jv) (4616189618054758400 : UInt64)) (FP.i2d dlv)) (FP.l2d av)))) (FP.ddiv (FP.l2d fv) (4629700416936869888 : UInt64)))) (FP.dadd (FP.i2d k3v) (4607182418800017408 : UInt64))) (FP.l2d gv)) (FP.dadd (FP.i2d k3v) (FP.l2d gv))) (FP.i2d iv))), oV, oJ nv, oV, oJ dn, oV] [(.long nv), (.double (FP.dmul (FP.ddiv (FP.dmul (FP.dmul (FP.ddiv (FP.dmul (FP.dadd (FP.i2d k1v) (4607182418800017408 : UInt64)) (FP.ddiv (FP.l2d fv) (4629700416936869888 : UInt64))) (FP.dadd (FP.dmul (FP.i2d k1v) (FP.dadd (FP.dsub (4607182418800017408 : UInt64) (FP.ddiv (FP.i2d jv) (4616189618054758400 : UInt64))) (FP.ddiv (FP.dmul (FP.ddiv (FP.i2d jv) (4616189618054758400 : UInt64)) (FP.i2d dlv)) (FP.l2d av)))) (FP.ddiv (FP.l2d fv) (4629700416936869888 : UInt64)))) (FP.dadd (FP.i2d k3v) (4607182418800017408 : UInt64))) (FP.l2d gv)) (FP.dadd (FP.i2d k3v) (FP.l2d gv))) (FP.i2d iv)))] _
        refine XS.l2dS X118.here hx rfl (v := (FP.l2d nv)) (hb hby at_350) rfl rfl ?_
        show own_S p e below T118 m 351 #[oI p0, oI p1, oI p2, oI p3, oI p4, oI k1v, oI k3v, oI jv, oI dlv, oI aev, oJ av, oV, oI px, oI ex, oI iv, oI mo, oJ lv, oV, oJ tx, oV, oJ fv, oV, oJ qx, oV, oJ gv, oV, .val (.double (FP.ddiv (FP.l2d fv) (4629700416936869888 : UInt64))), oV, oR b105, oI 0, .val (.double (FP.ddiv (FP.l2d fv) (4629700416936869888 : UInt64))), oV, oD (FP.l2d gv), oV, oD (FP.l2d av), oV, .val (.double (FP.dmul (FP.ddiv (FP.dmul (FP.dmul (FP.ddiv (FP.dmul (FP.dadd (FP.i2d k1v) (4607182418800017408 : UInt64)) (FP.ddiv (FP.l2d fv) (4629700416936869888 : UInt64))) (FP.dadd (FP.dmul (FP.i2d k1v) (FP.dadd (FP.dsub (4607182418800017408 : UInt64) (FP.ddiv (FP.i2d jv) (4616189618054758400 : UInt64))) (FP.ddiv (FP.dmul (FP.ddiv (FP.i2d jv) (4616189618054758400 : UInt64)) (FP.i2d dlv)) (FP.l2d av)))) (FP.ddiv (FP.l2d fv) (4629700416936869888 : UInt64)))) (FP.dadd (FP.i2d k3v) (4607182418800017408 : UInt64))) (FP.l2d gv)) (FP.dadd (FP.i2d k3v) (FP.l2d gv))) (FP.i2d iv))), oV, oJ nv, oV, oJ dn, oV] [(.double (FP.l2d nv)), (.double (FP.dmul (FP.ddiv (FP.dmul (FP.dmul (FP.ddiv (FP.dmul (FP.dadd (FP.i2d k1v) (4607182418800017408 : UInt64)) (FP.ddiv (FP.l2d fv) (4629700416936869888 : UInt64))) (FP.dadd (FP.dmul (FP.i2d k1v) (FP.dadd (FP.dsub (4607182418800017408 : UInt64) (FP.ddiv (FP.i2d jv) (4616189618054758400 : UInt64))) (FP.ddiv (FP.dmul (FP.ddiv (FP.i2d jv) (4616189618054758400 : UInt64)) (FP.i2d dlv)) (FP.l2d av)))) (FP.ddiv (FP.l2d fv) (4629700416936869888 : UInt64)))) (FP.dadd (FP.i2d k3v) (4607182418800017408 : UInt64))) (FP.l2d gv)) (FP.dadd (FP.i2d k3v) (FP.l2d gv))) (FP.i2d iv)))] _
        refine XS.lload X118.here hx rfl (hb hby at_351) rfl ?_
        show own_S p e below T118 m 353 #[oI p0, oI p1, oI p2, oI p3, oI p4, oI k1v, oI k3v, oI jv, oI dlv, oI aev, oJ av, oV, oI px, oI ex, oI iv, oI mo, oJ lv, oV, oJ tx, oV, oJ fv, oV, oJ qx, oV, oJ gv, oV, .val (.double (FP.ddiv (FP.l2d fv) (4629700416936869888 : UInt64))), oV, oR b105, oI 0, .val (.double (FP.ddiv (FP.l2d fv) (4629700416936869888 : UInt64))), oV, oD (FP.l2d gv), oV, oD (FP.l2d av), oV, .val (.double (FP.dmul (FP.ddiv (FP.dmul (FP.dmul (FP.ddiv (FP.dmul (FP.dadd (FP.i2d k1v) (4607182418800017408 : UInt64)) (FP.ddiv (FP.l2d fv) (4629700416936869888 : UInt64))) (FP.dadd (FP.dmul (FP.i2d k1v) (FP.dadd (FP.dsub (4607182418800017408 : UInt64) (FP.ddiv (FP.i2d jv) (4616189618054758400 : UInt64))) (FP.ddiv (FP.dmul (FP.ddiv (FP.i2d jv) (4616189618054758400 : UInt64)) (FP.i2d dlv)) (FP.l2d av)))) (FP.ddiv (FP.l2d fv) (4629700416936869888 : UInt64)))) (FP.dadd (FP.i2d k3v) (4607182418800017408 : UInt64))) (FP.l2d gv)) (FP.dadd (FP.i2d k3v) (FP.l2d gv))) (FP.i2d iv))), oV, oJ nv, oV, oJ dn, oV] [(.long dn), (.double (FP.l2d nv)), (.double (FP.dmul (FP.ddiv (FP.dmul (FP.dmul (FP.ddiv (FP.dmul (FP.dadd (FP.i2d k1v) (4607182418800017408 : UInt64)) (FP.ddiv (FP.l2d fv) (4629700416936869888 : UInt64))) (FP.dadd (FP.dmul (FP.i2d k1v) (FP.dadd (FP.dsub (4607182418800017408 : UInt64) (FP.ddiv (FP.i2d jv) (4616189618054758400 : UInt64))) (FP.ddiv (FP.dmul (FP.ddiv (FP.i2d jv) (4616189618054758400 : UInt64)) (FP.i2d dlv)) (FP.l2d av)))) (FP.ddiv (FP.l2d fv) (4629700416936869888 : UInt64)))) (FP.dadd (FP.i2d k3v) (4607182418800017408 : UInt64))) (FP.l2d gv)) (FP.dadd (FP.i2d k3v) (FP.l2d gv))) (FP.i2d iv)))] _
        refine XS.l2dS X118.here hx rfl (v := (FP.l2d dn)) (hb hby at_353) rfl rfl ?_
        show own_S p e below T118 m 354 #[oI p0, oI p1, oI p2, oI p3, oI p4, oI k1v, oI k3v, oI jv, oI dlv, oI aev, oJ av, oV, oI px, oI ex, oI iv, oI mo, oJ lv, oV, oJ tx, oV, oJ fv, oV, oJ qx, oV, oJ gv, oV, .val (.double (FP.ddiv (FP.l2d fv) (4629700416936869888 : UInt64))), oV, oR b105, oI 0, .val (.double (FP.ddiv (FP.l2d fv) (4629700416936869888 : UInt64))), oV, oD (FP.l2d gv), oV, oD (FP.l2d av), oV, .val (.double (FP.dmul (FP.ddiv (FP.dmul (FP.dmul (FP.ddiv (FP.dmul (FP.dadd (FP.i2d k1v) (4607182418800017408 : UInt64)) (FP.ddiv (FP.l2d fv) (4629700416936869888 : UInt64))) (FP.dadd (FP.dmul (FP.i2d k1v) (FP.dadd (FP.dsub (4607182418800017408 : UInt64) (FP.ddiv (FP.i2d jv) (4616189618054758400 : UInt64))) (FP.ddiv (FP.dmul (FP.ddiv (FP.i2d jv) (4616189618054758400 : UInt64)) (FP.i2d dlv)) (FP.l2d av)))) (FP.ddiv (FP.l2d fv) (4629700416936869888 : UInt64)))) (FP.dadd (FP.i2d k3v) (4607182418800017408 : UInt64))) (FP.l2d gv)) (FP.dadd (FP.i2d k3v) (FP.l2d gv))) (FP.i2d iv))), oV, oJ nv, oV, oJ dn, oV] [(.double (FP.l2d dn)), (.double (FP.l2d nv)), (.double (FP.dmul (FP.ddiv (FP.dmul (FP.dmul (FP.ddiv (FP.dmul (FP.dadd (FP.i2d k1v) (4607182418800017408 : UInt64)) (FP.ddiv (FP.l2d fv) (4629700416936869888 : UInt64))) (FP.dadd (FP.dmul (FP.i2d k1v) (FP.dadd (FP.dsub (4607182418800017408 : UInt64) (FP.ddiv (FP.i2d jv) (4616189618054758400 : UInt64))) (FP.ddiv (FP.dmul (FP.ddiv (FP.i2d jv) (4616189618054758400 : UInt64)) (FP.i2d dlv)) (FP.l2d av)))) (FP.ddiv (FP.l2d fv) (4629700416936869888 : UInt64)))) (FP.dadd (FP.i2d k3v) (4607182418800017408 : UInt64))) (FP.l2d gv)) (FP.dadd (FP.i2d k3v) (FP.l2d gv))) (FP.i2d iv)))] _
        refine XS.ddivS X118.here hx rfl (v := (FP.ddiv (FP.l2d nv) (FP.l2d dn))) (hb hby at_354) rfl yn rfl ?_
        show own_S p e below T118 m 355 #[oI p0, oI p1, oI p2, oI p3, oI p4, oI k1v, oI k3v, oI jv, oI dlv, oI aev, oJ av, oV, oI px, oI ex, oI iv, oI mo, oJ lv, oV, oJ tx, oV, oJ fv, oV, oJ qx, oV, oJ gv, oV, .val (.double (FP.ddiv (FP.l2d fv) (4629700416936869888 : UInt64))), oV, oR b105, oI 0, .val (.double (FP.ddiv (FP.l2d fv) (4629700416936869888 : UInt64))), oV, oD (FP.l2d gv), oV, oD (FP.l2d av), oV, .val (.double (FP.dmul (FP.ddiv (FP.dmul (FP.dmul (FP.ddiv (FP.dmul (FP.dadd (FP.i2d k1v) (4607182418800017408 : UInt64)) (FP.ddiv (FP.l2d fv) (4629700416936869888 : UInt64))) (FP.dadd (FP.dmul (FP.i2d k1v) (FP.dadd (FP.dsub (4607182418800017408 : UInt64) (FP.ddiv (FP.i2d jv) (4616189618054758400 : UInt64))) (FP.ddiv (FP.dmul (FP.ddiv (FP.i2d jv) (4616189618054758400 : UInt64)) (FP.i2d dlv)) (FP.l2d av)))) (FP.ddiv (FP.l2d fv) (4629700416936869888 : UInt64)))) (FP.dadd (FP.i2d k3v) (4607182418800017408 : UInt64))) (FP.l2d gv)) (FP.dadd (FP.i2d k3v) (FP.l2d gv))) (FP.i2d iv))), oV, oJ nv, oV, oJ dn, oV] [(.double (FP.ddiv (FP.l2d nv) (FP.l2d dn))), (.double (FP.dmul (FP.ddiv (FP.dmul (FP.dmul (FP.ddiv (FP.dmul (FP.dadd (FP.i2d k1v) (4607182418800017408 : UInt64)) (FP.ddiv (FP.l2d fv) (4629700416936869888 : UInt64))) (FP.dadd (FP.dmul (FP.i2d k1v) (FP.dadd (FP.dsub (4607182418800017408 : UInt64) (FP.ddiv (FP.i2d jv) (4616189618054758400 : UInt64))) (FP.ddiv (FP.dmul (FP.ddiv (FP.i2d jv) (4616189618054758400 : UInt64)) (FP.i2d dlv)) (FP.l2d av)))) (FP.ddiv (FP.l2d fv) (4629700416936869888 : UInt64)))) (FP.dadd (FP.i2d k3v) (4607182418800017408 : UInt64))) (FP.l2d gv)) (FP.dadd (FP.i2d k3v) (FP.l2d gv))) (FP.i2d iv)))] _
        refine XS.dcmpS X118.here hx rfl (v := (0 : Int32)) (hb hby at_355) rfl cw ?_
        show own_S p e below T118 m 356 #[oI p0, oI p1, oI p2, oI p3, oI p4, oI k1v, oI k3v, oI jv, oI dlv, oI aev, oJ av, oV, oI px, oI ex, oI iv, oI mo, oJ lv, oV, oJ tx, oV, oJ fv, oV, oJ qx, oV, oJ gv, oV, .val (.double (FP.ddiv (FP.l2d fv) (4629700416936869888 : UInt64))), oV, oR b105, oI 0, .val (.double (FP.ddiv (FP.l2d fv) (4629700416936869888 : UInt64))), oV, oD (FP.l2d gv), oV, oD (FP.l2d av), oV, .val (.double (FP.dmul (FP.ddiv (FP.dmul (FP.dmul (FP.ddiv (FP.dmul (FP.dadd (FP.i2d k1v) (4607182418800017408 : UInt64)) (FP.ddiv (FP.l2d fv) (4629700416936869888 : UInt64))) (FP.dadd (FP.dmul (FP.i2d k1v) (FP.dadd (FP.dsub (4607182418800017408 : UInt64) (FP.ddiv (FP.i2d jv) (4616189618054758400 : UInt64))) (FP.ddiv (FP.dmul (FP.ddiv (FP.i2d jv) (4616189618054758400 : UInt64)) (FP.i2d dlv)) (FP.l2d av)))) (FP.ddiv (FP.l2d fv) (4629700416936869888 : UInt64)))) (FP.dadd (FP.i2d k3v) (4607182418800017408 : UInt64))) (FP.l2d gv)) (FP.dadd (FP.i2d k3v) (FP.l2d gv))) (FP.i2d iv))), oV, oJ nv, oV, oJ dn, oV] [(.int 0)] _
        refine XS.ifNo X118.here hx rfl (hb hby at_356) rfl ((if0 _ _).trans (teq (by decide : (0 : Int32) = (0 : Int32))).2) ?_
        show own_S p e below T118 m 359 #[oI p0, oI p1, oI p2, oI p3, oI p4, oI k1v, oI k3v, oI jv, oI dlv, oI aev, oJ av, oV, oI px, oI ex, oI iv, oI mo, oJ lv, oV, oJ tx, oV, oJ fv, oV, oJ qx, oV, oJ gv, oV, .val (.double (FP.ddiv (FP.l2d fv) (4629700416936869888 : UInt64))), oV, oR b105, oI 0, .val (.double (FP.ddiv (FP.l2d fv) (4629700416936869888 : UInt64))), oV, oD (FP.l2d gv), oV, oD (FP.l2d av), oV, .val (.double (FP.dmul (FP.ddiv (FP.dmul (FP.dmul (FP.ddiv (FP.dmul (FP.dadd (FP.i2d k1v) (4607182418800017408 : UInt64)) (FP.ddiv (FP.l2d fv) (4629700416936869888 : UInt64))) (FP.dadd (FP.dmul (FP.i2d k1v) (FP.dadd (FP.dsub (4607182418800017408 : UInt64) (FP.ddiv (FP.i2d jv) (4616189618054758400 : UInt64))) (FP.ddiv (FP.dmul (FP.ddiv (FP.i2d jv) (4616189618054758400 : UInt64)) (FP.i2d dlv)) (FP.l2d av)))) (FP.ddiv (FP.l2d fv) (4629700416936869888 : UInt64)))) (FP.dadd (FP.i2d k3v) (4607182418800017408 : UInt64))) (FP.l2d gv)) (FP.dadd (FP.i2d k3v) (FP.l2d gv))) (FP.i2d iv))), oV, oJ nv, oV, oJ dn, oV] [] _
        refine XS.iconst X118.here hx rfl (hb hby at_359) ?_
        show own_S p e below T118 m 360 #[oI p0, oI p1, oI p2, oI p3, oI p4, oI k1v, oI k3v, oI jv, oI dlv, oI aev, oJ av, oV, oI px, oI ex, oI iv, oI mo, oJ lv, oV, oJ tx, oV, oJ fv, oV, oJ qx, oV, oJ gv, oV, .val (.double (FP.ddiv (FP.l2d fv) (4629700416936869888 : UInt64))), oV, oR b105, oI 0, .val (.double (FP.ddiv (FP.l2d fv) (4629700416936869888 : UInt64))), oV, oD (FP.l2d gv), oV, oD (FP.l2d av), oV, .val (.double (FP.dmul (FP.ddiv (FP.dmul (FP.dmul (FP.ddiv (FP.dmul (FP.dadd (FP.i2d k1v) (4607182418800017408 : UInt64)) (FP.ddiv (FP.l2d fv) (4629700416936869888 : UInt64))) (FP.dadd (FP.dmul (FP.i2d k1v) (FP.dadd (FP.dsub (4607182418800017408 : UInt64) (FP.ddiv (FP.i2d jv) (4616189618054758400 : UInt64))) (FP.ddiv (FP.dmul (FP.ddiv (FP.i2d jv) (4616189618054758400 : UInt64)) (FP.i2d dlv)) (FP.l2d av)))) (FP.ddiv (FP.l2d fv) (4629700416936869888 : UInt64)))) (FP.dadd (FP.i2d k3v) (4607182418800017408 : UInt64))) (FP.l2d gv)) (FP.dadd (FP.i2d k3v) (FP.l2d gv))) (FP.i2d iv))), oV, oJ nv, oV, oJ dn, oV] [(.int 1)] _
        refine XS.goto X118.here hx rfl (pc0 := 360) (pc' := 364) rfl (hb hby at_360) (by decide) (by decide) ?_
        show own_S p e below T118 m 364 #[oI p0, oI p1, oI p2, oI p3, oI p4, oI k1v, oI k3v, oI jv, oI dlv, oI aev, oJ av, oV, oI px, oI ex, oI iv, oI mo, oJ lv, oV, oJ tx, oV, oJ fv, oV, oJ qx, oV, oJ gv, oV, .val (.double (FP.ddiv (FP.l2d fv) (4629700416936869888 : UInt64))), oV, oR b105, oI 0, .val (.double (FP.ddiv (FP.l2d fv) (4629700416936869888 : UInt64))), oV, oD (FP.l2d gv), oV, oD (FP.l2d av), oV, .val (.double (FP.dmul (FP.ddiv (FP.dmul (FP.dmul (FP.ddiv (FP.dmul (FP.dadd (FP.i2d k1v) (4607182418800017408 : UInt64)) (FP.ddiv (FP.l2d fv) (4629700416936869888 : UInt64))) (FP.dadd (FP.dmul (FP.i2d k1v) (FP.dadd (FP.dsub (4607182418800017408 : UInt64) (FP.ddiv (FP.i2d jv) (4616189618054758400 : UInt64))) (FP.ddiv (FP.dmul (FP.ddiv (FP.i2d jv) (4616189618054758400 : UInt64)) (FP.i2d dlv)) (FP.l2d av)))) (FP.ddiv (FP.l2d fv) (4629700416936869888 : UInt64)))) (FP.dadd (FP.i2d k3v) (4607182418800017408 : UInt64))) (FP.l2d gv)) (FP.dadd (FP.i2d k3v) (FP.l2d gv))) (FP.i2d iv))), oV, oJ nv, oV, oJ dn, oV] [(.int 1)] _
        exact retN X118 hx (t := .boolean) Bd.returns (by simp) (hb hby at_364) hr
      · show Qm0 Z p0 p1 p2 p3 p4 h0 n0 _ T118.heap _
        rw [P118_0]
        exact ⟨rfl, N118⟩
set_option maxRecDepth 65536 in
set_option maxHeartbeats 40000000 in
theorem comes_1 {Post : Tables → Env → Array Value → State → Outcome → State → Prop} (hpost : ∀ tb e args s v u, (limb_1_1.after args s (.returned v) u = true ∧ limb_1_2.after args s (.returned v) u = true ∧ True) → ReturnedEndW s (.returned v) u (Jvm.fieldLocs frame_1_writes args s ++ Jvm.arrayLocs frame_1_arrays args s ++ Jvm.staticLocs frame_1_statics s) 32 5248 → Post tb e args s (.returned v) u) :
    ArmFor flags0 classFile x code maxLocals ret World_1 tables_1 room_1 Calls_1 rest_1 Pre_1 Post := by
  intro l hfl _ _ p e ha hc hk s m args below hf hA hF happ hP
  obtain ⟨hcalls, hrest, hpre⟩ := hP
  obtain ⟨-, -, -, hnamed, -, -, -, hat⟩ := (Spec.applies_iff hf).mp happ
  obtain ⟨hg, hn⟩ := and_e (Cond.before_iff.mp (show (Jvm.Cond.and given_1 narrow_1).before args s = true from hpre))
  obtain ⟨hcount, hg0⟩ := and_e hg
  obtain ⟨hv0, hg1⟩ := and_e hg0
  obtain ⟨hv1, hg2⟩ := and_e hg1
  obtain ⟨hv2, hg3⟩ := and_e hg2
  obtain ⟨hv3, hg4⟩ := and_e hg3
  obtain ⟨w0, w1, w2, w3, w4, rfl⟩ : ∃ w0 w1 w2 w3 w4 : Value, args = #[w0, w1, w2, w3, w4] := by
    have hs : args.size = 5 := by simpa [Cond.value, given_1] using hcount
    obtain ⟨L⟩ := args
    match L, hs with
    | [w0, w1, w2, w3, w4], _ => exact ⟨w0, w1, w2, w3, w4, rfl⟩
  have hw := fun d (hd : d ∈ tables_1) => atoms_spec (ws := Jvm.Cond.code x code maxLocals ret :: tables_1) hat d (List.mem_cons_of_mem _ hd)
  have hfit : Fit s := fun {y c} hc i hi => by
    obtain ⟨ha, rfl⟩ := Array.getElem?_eq_some_iff.mp hc
    have q := List.all_eq_true.mp ((Array.all_eq_true_iff_forall_mem.mp hF) _ (Array.getElem_mem ha)) i (List.mem_range.mpr hi)
    simpa [Array.getElem?_eq_getElem hi] using q
  obtain ⟨i0, ei0⟩ := is_v hv0
  obtain rfl : w0 = (.int i0) := Option.some.inj ei0
  obtain ⟨i1, ei1⟩ := is_v hv1
  obtain rfl : w1 = (.int i1) := Option.some.inj ei1
  obtain ⟨i2, ei2⟩ := is_v hv2
  obtain rfl : w2 = (.int i2) := Option.some.inj ei2
  obtain ⟨i3, ei3⟩ := is_v hv3
  obtain rfl : w3 = (.int i3) := Option.some.inj ei3
  obtain ⟨i4, ei4⟩ := is_v hg4
  obtain rfl : w4 = (.int i4) := Option.some.inj ei4
  obtain ⟨n, o, h1, h2, h3, _, L, rfl, ⟨rfl, N⟩, hq⟩ := rmm0 l s _ hw tables_1 i0 i1 i2 i3 i4 s.heap s.heap.size (Nat.le_refl _)  p e ha hc hk s m _ below hf ((Spec.applies_iff_loose hf).mp happ).1 ⟨rfl, State.Warmed39.refl s, rfl⟩ trivial
  refine ⟨n, _, h1, h2, h3, hpost _ _ _ _ _ _ ⟨Cond.after_iff.mpr rfl, Cond.after_iff.mpr (eq_i res_at (Term.int_eval (1)) rfl), trivial⟩ ⟨hq.1, hq.2.1, hq.2.2.1, (hq.2.2.2.sift fun y hy => Or.inr (N y hy)).mono (by decide) (by decide)⟩⟩
theorem main_1_1 : Claimed_1_1 := comes_1 fun _ _ _ _ _ _ h hF => ⟨h.1, hF⟩
theorem main_1_2 : Claimed_1_2 := comes_1 fun _ _ _ _ _ _ h hF => ⟨h.2.1, hF⟩
end Jvm.Pilot.@@N@@
namespace Jvm.Pilot.@@N@@
open Jvm Jvm.ClassFile Sem Op Lib Jvm.Free Jvm.Stand Jvm.Pilot.@@N@@.Jvm.D
/-! MADE BY PROGRAM (witnessworld.py) out of the Statement's table words and the real class files: 18 classes; the members and pool entries that the words name. The judged class is class 1, her method 1. -/
namespace start1
open Jvm.ClassFile
def u (s : String) : CpInfo := .utf8 (stringToUtf16 s)
/-- a pool by its gaps: so many unusable entries, then the entry; so many at the end -/
def gap : Nat → List CpInfo → List CpInfo
  | 0, r => r
  | n + 1, r => .unusable :: gap n r
def poolList (es : List (Nat × CpInfo)) (last : Nat) : List CpInfo := es.foldr (fun e r => gap e.1 (e.2 :: r)) (gap last [])
def pool (es : List (Nat × CpInfo)) (last : Nat) : Array CpInfo := ⟨poolList es last⟩
def fileOf (pool : Array CpInfo) (this : Nat) (attrs : Array Attribute := #[]) (ms : Array MethodInfo := #[]) (fl : Nat := 33) (sup : Nat := 0) (ifs : Array Nat := #[]) (fds : Array FieldInfo := #[]) : ClassFile where
  minorVersion := 0
  majorVersion := 65
  constantPool := pool
  accessFlags := fl
  thisClass := this
  superClass := sup
  interfaces := ifs
  fields := fds
  methods := ms
  attributes := attrs
def plain (name : String) (sup : Option ClassId) : Class where
  name := name
  kind := .ordinary
  loader := none
  accessFlags := 33
  super := sup
  interfaces := #[]
  cf := none
  fields := #[]
  methods := #[]
  instanceTypes := #[]
  staticTypes := #[]
  resolved := #[]
  callSites := []
  init := .initialized
  statics := none
  mirror := none

def pool0 : Array CpInfo := pool [(5, u "<init>"), (0, u "()V"), (1, .class_ 10), (1, u "java/lang/Object")] 113

def k0c0 : Code := { maxStack := 0, maxLocals := 1, code := object_method_1_code, exceptionTable := #[], attributes := #[] }
def k0m0 : Method := { name := "<init>", desc := "()V", sig := { parameters := [], returnType := none }, accessFlags := 1, code := some k0c0 }
/-- java/lang/Object -/
def k0 : Class := { plain "java/lang/Object" none with
  accessFlags := 33
  interfaces := #[]
  cf := some (fileOf pool0 8 #[] #[{ accessFlags := 1, nameIndex := 5, descriptorIndex := 6, attributes := #[] }] 33 0 #[] #[])
  fields := #[]
  methods := #[k0m0]
  instanceTypes := #[]
  staticTypes := #[]
  resolved := Array.replicate 124 none
  statics := none }

def pool1 : Array CpInfo := pool [(2, .class_ 4), (1, u "java/lang/Object"), (0, u "<init>"), (0, u "()V"), (0, .long 32), (1, .long 8), (1, .double 4629700416936869888), (1, .class_ 14), (0, u "com/example/buurt/buurt/model/Bm25"), (0, .double 4616189618054758400), (1, .methodref 13 18), (0, .nameAndType 5 19), (0, u "(DDD)V"), (0, .methodref 13 21), (0, .nameAndType 22 23), (0, u "weight"), (0, u "(DDDDD)D"), (0, .class_ 25), (0, u "com/example/buurt/buurt/model/Bm25WeightPinLaw"), (2, u "law"), (0, u "(IIIII)Z")] 3

def k1m0 : Method := { name := "<init>", desc := "()V", sig := { parameters := [], returnType := none }, accessFlags := 2, code := none }
def k1c1 : Code := { maxStack := 11, maxLocals := 42, code := code, exceptionTable := #[], attributes := #[] }
def k1m1 : Method := { name := "law", desc := "(IIIII)Z", sig := { parameters := [.int, .int, .int, .int, .int], returnType := some .boolean }, accessFlags := 9, code := some k1c1 }
/-- com/example/buurt/buurt/model/Bm25WeightPinLaw -/
def k1 : Class := { plain "com/example/buurt/buurt/model/Bm25WeightPinLaw" (some 0) with
  accessFlags := 49
  interfaces := #[]
  cf := some (fileOf pool1 24 #[] #[{ accessFlags := 2, nameIndex := 5, descriptorIndex := 6, attributes := #[] }, { accessFlags := 9, nameIndex := 28, descriptorIndex := 29, attributes := #[] }] 49 2 #[] #[])
  fields := #[]
  methods := #[k1m0, k1m1]
  instanceTypes := #[]
  staticTypes := #[]
  resolved := Array.replicate 33 none
  statics := none }

def pool2 : Array CpInfo := pool [(1, .methodref 2 3), (0, .class_ 4), (0, .nameAndType 5 6), (0, u "java/lang/Object"), (0, u "<init>"), (0, u "()V"), (0, .class_ 8), (0, u "java/lang/Record")] 13

def k2c0 : Code := { maxStack := 1, maxLocals := 1, code := jdk_30_method_1_code, exceptionTable := #[], attributes := #[] }
def k2m0 : Method := { name := "<init>", desc := "()V", sig := { parameters := [], returnType := none }, accessFlags := 4, code := some k2c0 }
/-- java/lang/Record -/
def k2 : Class := { plain "java/lang/Record" (some 0) with
  accessFlags := 1057
  interfaces := #[]
  cf := some (fileOf pool2 7 #[] #[{ accessFlags := 4, nameIndex := 5, descriptorIndex := 6, attributes := #[] }] 1057 2 #[] #[])
  fields := #[]
  methods := #[k2m0]
  instanceTypes := #[]
  staticTypes := #[]
  resolved := Array.replicate 22 none
  statics := none }

def pool3 : Array CpInfo := pool [(1, .methodref 2 3), (0, .class_ 4), (0, .nameAndType 5 6), (0, u "java/lang/Record"), (0, u "<init>"), (0, u "()V"), (0, .string 8), (0, u "k1"), (0, .methodref 10 11), (0, .class_ 12), (0, .nameAndType 13 14), (0, u "com/example/buurt/buurt/model/Bm25"), (0, u "requireSaturation"), (0, u "(Ljava/lang/String;D)V"), (0, .string 16), (0, u "b"), (0, .methodref 18 19), (0, .class_ 20), (0, .nameAndType 21 14), (0, u "com/example/buurt/buurt/model/Parameters"), (0, u "requireFraction"), (0, .string 23), (0, u "k3"), (0, .fieldref 10 25), (0, .nameAndType 8 26), (0, u "D"), (0, .fieldref 10 28), (0, .nameAndType 16 26), (0, .fieldref 10 30), (0, .nameAndType 23 26), (8, .methodref 40 41), (0, .class_ 42), (0, .nameAndType 43 44), (0, u "java/lang/Double"), (0, u "valueOf"), (0, u "(D)Ljava/lang/Double;"), (0, .double 9218868437227405311), (1, .string 48), (0, u "finite and at least 0"), (0, .methodref 18 50), (0, .nameAndType 51 52), (0, u "require"), (0, u "(Ljava/lang/String;Ljava/lang/Object;ZLjava/lang/String;)V"), (12, u "(DDD)V"), (5, u "weight"), (0, u "(DDDDD)D")] 29

def k3c0 : Code := { maxStack := 3, maxLocals := 7, code := prog_23_method_1_code, exceptionTable := #[], attributes := #[] }
def k3m0 : Method := { name := "<init>", desc := "(DDD)V", sig := { parameters := [.double, .double, .double], returnType := none }, accessFlags := 1, code := some k3c0 }
def k3c1 : Code := { maxStack := 8, maxLocals := 13, code := prog_23_method_3_code, exceptionTable := #[], attributes := #[] }
def k3m1 : Method := { name := "weight", desc := "(DDDDD)D", sig := { parameters := [.double, .double, .double, .double, .double], returnType := some .double }, accessFlags := 1, code := some k3c1 }
def k3c2 : Code := { maxStack := 6, maxLocals := 3, code := prog_23_method_4_code, exceptionTable := #[], attributes := #[] }
def k3m2 : Method := { name := "requireSaturation", desc := "(Ljava/lang/String;D)V", sig := { parameters := [(.object "java/lang/String"), .double], returnType := none }, accessFlags := 10, code := some k3c2 }
/-- com/example/buurt/buurt/model/Bm25 -/
def k3 : Class := { plain "com/example/buurt/buurt/model/Bm25" (some 2) with
  accessFlags := 49
  interfaces := #[]
  cf := some (fileOf pool3 10 #[] #[{ accessFlags := 1, nameIndex := 5, descriptorIndex := 65, attributes := #[] }, { accessFlags := 1, nameIndex := 71, descriptorIndex := 72, attributes := #[] }, { accessFlags := 10, nameIndex := 13, descriptorIndex := 14, attributes := #[] }] 49 2 #[] #[{ accessFlags := 18, nameIndex := 8, descriptorIndex := 26, attributes := #[] }, { accessFlags := 18, nameIndex := 16, descriptorIndex := 26, attributes := #[] }, { accessFlags := 18, nameIndex := 23, descriptorIndex := 26, attributes := #[] }])
  fields := #[{ name := "k1", type := .double, accessFlags := 18, slot := 0, constantValue := 0 }, { name := "b", type := .double, accessFlags := 18, slot := 1, constantValue := 0 }, { name := "k3", type := .double, accessFlags := 18, slot := 2, constantValue := 0 }]
  methods := #[k3m0, k3m1, k3m2]
  instanceTypes := #[.double, .double, .double]
  staticTypes := #[]
  resolved := Array.replicate 102 none
  statics := none }

def pool4 : Array CpInfo := pool [(1, .class_ 2), (0, u "java/io/Serializable"), (0, .class_ 4), (0, u "java/lang/Object")] 2

/-- java/io/Serializable -/
def k4 : Class := { plain "java/io/Serializable" (some 0) with
  accessFlags := 1537
  interfaces := #[]
  cf := some (fileOf pool4 1 #[] #[] 1537 3 #[] #[])
  fields := #[]
  methods := #[]
  instanceTypes := #[]
  staticTypes := #[]
  resolved := Array.replicate 7 none
  statics := none }

def pool5 : Array CpInfo := pool [(1, .class_ 2), (0, u "java/lang/Comparable"), (0, .class_ 4), (0, u "java/lang/Object")] 7

/-- java/lang/Comparable -/
def k5 : Class := { plain "java/lang/Comparable" (some 0) with
  accessFlags := 1537
  interfaces := #[]
  cf := some (fileOf pool5 1 #[] #[] 1537 3 #[] #[])
  fields := #[]
  methods := #[]
  instanceTypes := #[]
  staticTypes := #[]
  resolved := Array.replicate 12 none
  statics := none }

def pool6 : Array CpInfo := pool [(2, .class_ 4), (1, u "java/lang/CharSequence"), (42, .class_ 48), (0, u "java/lang/CharSequence$1CodePointIterator"), (10, .class_ 60), (0, u "java/lang/CharSequence$1CharIterator"), (5, .class_ 67), (0, u "java/lang/Object")] 63

/-- java/lang/CharSequence -/
def k6 : Class := { plain "java/lang/CharSequence" (some 0) with
  accessFlags := 1537
  interfaces := #[]
  cf := some (fileOf pool6 2 #[.nestMembers #[47, 59]] #[] 1537 66 #[] #[])
  fields := #[]
  methods := #[]
  instanceTypes := #[]
  staticTypes := #[]
  resolved := Array.replicate 131 none
  statics := none }

def pool7 : Array CpInfo := pool [(1, .class_ 2), (0, u "java/lang/constant/Constable"), (0, .class_ 4), (0, u "java/lang/Object")] 6

/-- java/lang/constant/Constable -/
def k7 : Class := { plain "java/lang/constant/Constable" (some 0) with
  accessFlags := 1537
  interfaces := #[]
  cf := some (fileOf pool7 1 #[] #[] 1537 3 #[] #[])
  fields := #[]
  methods := #[]
  instanceTypes := #[]
  staticTypes := #[]
  resolved := Array.replicate 11 none
  statics := none }

def pool8 : Array CpInfo := pool [(1, .class_ 2), (0, u "java/lang/constant/ConstantDesc"), (0, .class_ 4), (0, u "java/lang/Object")] 32

/-- java/lang/constant/ConstantDesc -/
def k8 : Class := { plain "java/lang/constant/ConstantDesc" (some 0) with
  accessFlags := 1537
  interfaces := #[]
  cf := some (fileOf pool8 1 #[] #[] 1537 3 #[] #[])
  fields := #[]
  methods := #[]
  instanceTypes := #[]
  staticTypes := #[]
  resolved := Array.replicate 37 none
  statics := none }

def pool9 : Array CpInfo := pool [(2, .class_ 4), (1, u "java/lang/Object"), (0, u "<init>"), (0, u "()V"), (3, .class_ 12), (1, u "java/lang/String"), (0, u "value"), (0, u "[B"), (2, u "coder"), (0, u "B"), (2, u "hash"), (0, u "I"), (2, u "hashIsZero"), (0, u "Z"), (13, u "COMPACT_STRINGS"), (534, .class_ 576), (0, u "java/lang/CharSequence"), (22, u "CASE_INSENSITIVE_ORDER"), (0, u "Ljava/util/Comparator;"), (500, u "serialPersistentFields"), (0, u "[Ljava/io/ObjectStreamField;"), (0, .class_ 1104), (0, u "java/lang/String$CaseInsensitiveComparator"), (1, .class_ 1107), (0, u "java/io/Serializable"), (0, .class_ 1109), (0, u "java/lang/Comparable"), (0, .class_ 1111), (0, u "java/lang/constant/Constable"), (0, .class_ 1113), (0, u "java/lang/constant/ConstantDesc"), (2, u "serialVersionUID"), (0, u "J"), (3, u "REPL"), (0, u "C"), (2, u "LATIN1"), (1, u "UTF16")] 323

def k9m0 : Method := { name := "<init>", desc := "()V", sig := { parameters := [], returnType := none }, accessFlags := 1, code := none }
/-- java/lang/String -/
def k9 : Class := { plain "java/lang/String" (some 0) with
  accessFlags := 49
  interfaces := #[4, 5, 6, 7, 8]
  cf := some (fileOf pool9 10 #[.nestMembers #[1103]] #[{ accessFlags := 1, nameIndex := 5, descriptorIndex := 6, attributes := #[] }] 49 2 #[1106, 1108, 575, 1110, 1112] #[{ accessFlags := 18, nameIndex := 13, descriptorIndex := 14, attributes := #[] }, { accessFlags := 18, nameIndex := 17, descriptorIndex := 18, attributes := #[] }, { accessFlags := 2, nameIndex := 21, descriptorIndex := 22, attributes := #[] }, { accessFlags := 2, nameIndex := 25, descriptorIndex := 26, attributes := #[] }, { accessFlags := 26, nameIndex := 1116, descriptorIndex := 1117, attributes := #[] }, { accessFlags := 24, nameIndex := 40, descriptorIndex := 26, attributes := #[] }, { accessFlags := 26, nameIndex := 1101, descriptorIndex := 1102, attributes := #[] }, { accessFlags := 26, nameIndex := 1121, descriptorIndex := 1122, attributes := #[] }, { accessFlags := 25, nameIndex := 599, descriptorIndex := 600, attributes := #[] }, { accessFlags := 24, nameIndex := 1125, descriptorIndex := 18, attributes := #[] }, { accessFlags := 24, nameIndex := 1127, descriptorIndex := 18, attributes := #[] }])
  fields := #[{ name := "value", type := (.array .byte), accessFlags := 18, slot := 0, constantValue := 0 }, { name := "coder", type := .byte, accessFlags := 18, slot := 1, constantValue := 0 }, { name := "hash", type := .int, accessFlags := 2, slot := 2, constantValue := 0 }, { name := "hashIsZero", type := .boolean, accessFlags := 2, slot := 3, constantValue := 0 }, { name := "serialVersionUID", type := .long, accessFlags := 26, slot := 0, constantValue := 0 }, { name := "COMPACT_STRINGS", type := .boolean, accessFlags := 24, slot := 1, constantValue := 0 }, { name := "serialPersistentFields", type := (.array (.object "java/io/ObjectStreamField")), accessFlags := 26, slot := 2, constantValue := 0 }, { name := "REPL", type := .char, accessFlags := 26, slot := 3, constantValue := 0 }, { name := "CASE_INSENSITIVE_ORDER", type := (.object "java/util/Comparator"), accessFlags := 25, slot := 4, constantValue := 0 }, { name := "LATIN1", type := .byte, accessFlags := 24, slot := 5, constantValue := 0 }, { name := "UTF16", type := .byte, accessFlags := 24, slot := 6, constantValue := 0 }]
  methods := #[k9m0]
  instanceTypes := #[(.array .byte), .byte, .int, .boolean]
  staticTypes := #[.long, .boolean, (.array (.object "java/io/ObjectStreamField")), .char, (.object "java/util/Comparator"), .byte, .byte]
  resolved := Array.replicate 1451 none
  statics := none }

def pool10 : Array CpInfo := pool [(1, .methodref 2 3), (0, .class_ 4), (0, .nameAndType 5 6), (0, u "java/lang/Object"), (0, u "<init>"), (0, u "()V"), (1, .class_ 10), (1, u "java/lang/Number"), (2, .class_ 14), (0, u "java/io/Serializable"), (0, u "serialVersionUID"), (0, u "J")] 20

def k10c0 : Code := { maxStack := 1, maxLocals := 1, code := jdk_18_method_1_code, exceptionTable := #[], attributes := #[] }
def k10m0 : Method := { name := "<init>", desc := "()V", sig := { parameters := [], returnType := none }, accessFlags := 1, code := some k10c0 }
/-- java/lang/Number -/
def k10 : Class := { plain "java/lang/Number" (some 0) with
  accessFlags := 1057
  interfaces := #[4]
  cf := some (fileOf pool10 8 #[] #[{ accessFlags := 1, nameIndex := 5, descriptorIndex := 6, attributes := #[] }] 1057 2 #[13] #[{ accessFlags := 26, nameIndex := 15, descriptorIndex := 16, attributes := #[] }])
  fields := #[{ name := "serialVersionUID", type := .long, accessFlags := 26, slot := 0, constantValue := 0 }]
  methods := #[k10m0]
  instanceTypes := #[]
  staticTypes := #[.long]
  resolved := Array.replicate 37 none
  statics := none }

def pool11 : Array CpInfo := pool [(1, .class_ 2), (0, u "java/lang/Double"), (17, u "<init>"), (84, .methodref 1 106), (0, .nameAndType 20 107), (0, u "(D)V"), (5, .methodref 114 115), (0, .class_ 116), (0, .nameAndType 20 117), (0, u "java/lang/Number"), (0, u "()V"), (0, .fieldref 1 119), (0, .nameAndType 120 121), (0, u "value"), (0, u "D"), (51, u "TYPE"), (0, u "Ljava/lang/Class;"), (0, .class_ 176), (0, u "java/lang/Comparable"), (0, .class_ 178), (0, u "java/lang/constant/Constable"), (0, .class_ 180), (0, u "java/lang/constant/ConstantDesc"), (0, u "POSITIVE_INFINITY"), (3, u "NEGATIVE_INFINITY"), (2, u "NaN"), (2, u "MAX_VALUE"), (0, u "MIN_NORMAL"), (0, u "MIN_VALUE"), (2, u "SIZE"), (0, u "I"), (1, u "PRECISION"), (1, u "MAX_EXPONENT"), (1, u "MIN_EXPONENT"), (1, u "BYTES"), (3, u "serialVersionUID"), (0, u "J"), (14, u "valueOf"), (5, u "(D)Ljava/lang/Double;")] 58

def k11c0 : Code := { maxStack := 4, maxLocals := 2, code := jdk_117_method_4_code, exceptionTable := #[], attributes := #[] }
def k11m0 : Method := { name := "valueOf", desc := "(D)Ljava/lang/Double;", sig := { parameters := [.double], returnType := some (.object "java/lang/Double") }, accessFlags := 9, code := some k11c0 }
def k11c1 : Code := { maxStack := 3, maxLocals := 3, code := jdk_117_method_9_code, exceptionTable := #[], attributes := #[] }
def k11m1 : Method := { name := "<init>", desc := "(D)V", sig := { parameters := [.double], returnType := none }, accessFlags := 1, code := some k11c1 }
/-- java/lang/Double -/
def k11 : Class := { plain "java/lang/Double" (some 10) with
  accessFlags := 49
  interfaces := #[5, 7, 8]
  cf := some (fileOf pool11 1 #[] #[{ accessFlags := 9, nameIndex := 225, descriptorIndex := 231, attributes := #[] }, { accessFlags := 1, nameIndex := 20, descriptorIndex := 107, attributes := #[] }] 49 114 #[175, 177, 179] #[{ accessFlags := 25, nameIndex := 181, descriptorIndex := 121, attributes := #[] }, { accessFlags := 25, nameIndex := 185, descriptorIndex := 121, attributes := #[] }, { accessFlags := 25, nameIndex := 188, descriptorIndex := 121, attributes := #[] }, { accessFlags := 25, nameIndex := 191, descriptorIndex := 121, attributes := #[] }, { accessFlags := 25, nameIndex := 192, descriptorIndex := 121, attributes := #[] }, { accessFlags := 25, nameIndex := 193, descriptorIndex := 121, attributes := #[] }, { accessFlags := 25, nameIndex := 196, descriptorIndex := 197, attributes := #[] }, { accessFlags := 25, nameIndex := 199, descriptorIndex := 197, attributes := #[] }, { accessFlags := 25, nameIndex := 201, descriptorIndex := 197, attributes := #[] }, { accessFlags := 25, nameIndex := 203, descriptorIndex := 197, attributes := #[] }, { accessFlags := 25, nameIndex := 205, descriptorIndex := 197, attributes := #[] }, { accessFlags := 25, nameIndex := 173, descriptorIndex := 174, attributes := #[] }, { accessFlags := 18, nameIndex := 120, descriptorIndex := 121, attributes := #[] }, { accessFlags := 26, nameIndex := 209, descriptorIndex := 210, attributes := #[] }])
  fields := #[{ name := "POSITIVE_INFINITY", type := .double, accessFlags := 25, slot := 0, constantValue := 0 }, { name := "NEGATIVE_INFINITY", type := .double, accessFlags := 25, slot := 1, constantValue := 0 }, { name := "NaN", type := .double, accessFlags := 25, slot := 2, constantValue := 0 }, { name := "MAX_VALUE", type := .double, accessFlags := 25, slot := 3, constantValue := 0 }, { name := "MIN_NORMAL", type := .double, accessFlags := 25, slot := 4, constantValue := 0 }, { name := "MIN_VALUE", type := .double, accessFlags := 25, slot := 5, constantValue := 0 }, { name := "SIZE", type := .int, accessFlags := 25, slot := 6, constantValue := 0 }, { name := "PRECISION", type := .int, accessFlags := 25, slot := 7, constantValue := 0 }, { name := "MAX_EXPONENT", type := .int, accessFlags := 25, slot := 8, constantValue := 0 }, { name := "MIN_EXPONENT", type := .int, accessFlags := 25, slot := 9, constantValue := 0 }, { name := "BYTES", type := .int, accessFlags := 25, slot := 10, constantValue := 0 }, { name := "TYPE", type := (.object "java/lang/Class"), accessFlags := 25, slot := 11, constantValue := 0 }, { name := "value", type := .double, accessFlags := 18, slot := 0, constantValue := 0 }, { name := "serialVersionUID", type := .long, accessFlags := 26, slot := 12, constantValue := 0 }]
  methods := #[k11m0, k11m1]
  instanceTypes := #[.double]
  staticTypes := #[.double, .double, .double, .double, .double, .double, .int, .int, .int, .int, .int, (.object "java/lang/Class"), .long]
  resolved := Array.replicate 290 none
  statics := none }

def pool12 : Array CpInfo := pool [(2, .class_ 4), (1, u "java/lang/Object"), (0, u "<init>"), (0, u "()V"), (0, .methodref 8 9), (0, .class_ 10), (0, .nameAndType 11 12), (0, u "java/lang/Double"), (0, u "valueOf"), (0, u "(D)Ljava/lang/Double;"), (0, .string 14), (0, u "from 0 to 1"), (0, .methodref 16 17), (0, .class_ 18), (0, .nameAndType 19 20), (0, u "com/example/buurt/buurt/model/Parameters"), (0, u "require"), (0, u "(Ljava/lang/String;Ljava/lang/Object;ZLjava/lang/String;)V"), (20, u "requireFraction"), (0, u "(Ljava/lang/String;D)V")] 19

def k12m0 : Method := { name := "<init>", desc := "()V", sig := { parameters := [], returnType := none }, accessFlags := 2, code := none }
def k12c1 : Code := { maxStack := 6, maxLocals := 3, code := prog_44_method_2_code, exceptionTable := #[], attributes := #[] }
def k12m1 : Method := { name := "requireFraction", desc := "(Ljava/lang/String;D)V", sig := { parameters := [(.object "java/lang/String"), .double], returnType := none }, accessFlags := 8, code := some k12c1 }
def k12c2 : Code := { maxStack := 5, maxLocals := 4, code := prog_44_method_4_code, exceptionTable := #[], attributes := #[] }
def k12m2 : Method := { name := "require", desc := "(Ljava/lang/String;Ljava/lang/Object;ZLjava/lang/String;)V", sig := { parameters := [(.object "java/lang/String"), (.object "java/lang/Object"), .boolean, (.object "java/lang/String")], returnType := none }, accessFlags := 8, code := some k12c2 }
/-- com/example/buurt/buurt/model/Parameters -/
def k12 : Class := { plain "com/example/buurt/buurt/model/Parameters" (some 0) with
  accessFlags := 48
  interfaces := #[]
  cf := some (fileOf pool12 16 #[] #[{ accessFlags := 2, nameIndex := 5, descriptorIndex := 6, attributes := #[] }, { accessFlags := 8, nameIndex := 41, descriptorIndex := 42, attributes := #[] }, { accessFlags := 8, nameIndex := 19, descriptorIndex := 20, attributes := #[] }] 48 2 #[] #[])
  fields := #[]
  methods := #[k12m0, k12m1, k12m2]
  instanceTypes := #[]
  staticTypes := #[]
  resolved := Array.replicate 62 none
  statics := none }

def pool13 : Array CpInfo := pool [(1, u "java/lang/Cloneable"), (0, .class_ 1), (0, u "java/lang/Object"), (0, .class_ 3)] 3

/-- java/lang/Cloneable -/
def k13 : Class := { plain "java/lang/Cloneable" (some 0) with
  accessFlags := 1537
  interfaces := #[]
  cf := some (fileOf pool13 2 #[] #[] 1537 4 #[] #[])
  fields := #[]
  methods := #[]
  instanceTypes := #[]
  staticTypes := #[]
  resolved := Array.replicate 8 none
  statics := none }

/-- the primitive byte -/
def k14 : Class := { plain "byte" none with kind := .primitive 'B', accessFlags := 0x411 }
/-- [B -/
def k15 : Class := { plain "[B" (some 0) with kind := .array 14 .byte, interfaces := #[13, 4], accessFlags := 1041 }

/-- the primitive int -/
def k16 : Class := { plain "int" none with kind := .primitive 'I', accessFlags := 0x411 }
/-- [I -/
def k17 : Class := { plain "[I" (some 0) with kind := .array 16 .int, interfaces := #[13, 4], accessFlags := 1041 }

def heap : Heap := #[]
def classes : Array Class := #[k0, k1, k2, k3, k4, k5, k6, k7, k8, k9, k10, k11, k12, k13, k14, k15, k16, k17]
def interned : List (Array UInt16 × Addr) := []
def slotsUsed : Nat := 0
def theMethod : MethodId := ⟨1, 1⟩
def args0 : Array Value := #[.int 77, .int 38, .int 53, .int 9, .int 0]
def aboutOver (below : List Frame) : State where
  vm := { classes := classes, interned := interned.toArray }
  heap := heap
  slotsUsed := slotsUsed
  threads := #[{ frames := .invoking theMethod args0 :: below }]
def below0 : List Frame := [.native { method := ⟨0, 0⟩, args := #[] }]
def about1 : State := aboutOver below0
def p0 : Program := .bare "" "" ""
def e0 : Env := launch0.env 0 0 0
theorem w_frames : about1.frames = Frame.invoking theMethod args0 :: below0 := rfl
set_option maxRecDepth 65536 in
theorem w_args : argsFit about1.vm theMethod args0 = true := by decide +kernel
set_option maxRecDepth 65536 in
theorem w_heap : heapFits about1 = true := by decide +kernel
set_option maxRecDepth 65536 in
theorem w_runnable : about1.curStatus? = some .runnable := by decide +kernel
set_option maxRecDepth 65536 in
theorem w_alone : about1.alone = true := by decide +kernel
set_option maxRecDepth 65536 in
theorem w_named : about1.methodNamed? x = some theMethod := by decide +kernel
set_option maxRecDepth 65536 in
theorem w_hears : about1.hears theMethod below0 = true := by decide +kernel
set_option maxRecDepth 65536 in
theorem w_ripe : about1.ripe theMethod args0 below0 = true := by decide +kernel
theorem w_running : about1.status = .running := rfl
set_option maxRecDepth 65536 in
theorem w_room : about1.hasRoom e0.platform room_1 = true :=
  launch0.hasRoom_least _ room_1 (by decide +kernel) (by decide +kernel) (by decide +kernel) (by decide +kernel) (by decide +kernel) (by decide +kernel)
theorem allAtoms_all (ts : List Jvm.Cond) (a : Array Jvm.Value) (st : Jvm.State) : (allAtoms ts).before a st = ts.all (fun c => c.before a st) := by
  induction ts with
  | nil => rfl
  | cons c t ih =>
    show (Jvm.Cond.and c (allAtoms t)).before a st = _
    rw [Jvm.Cond.before_and, ih, List.all_cons]
def words1 : List Jvm.Cond := Jvm.Cond.code x code maxLocals ret :: tables_1
/-- a 'code' word, met by the world's own term for the bytes: nothing is compared byte by byte -/
theorem code_word {y : MethodName} {bytes : ByteArray} {mx : Nat} {rt : Option FieldType} {a : Array Value} {s : State} {m : MethodId} {meth : Method} {c : Code} (h1 : s.methodNamed? y = some m) (h2 : s.vm.method? m = some meth) (h3 : meth.code = some c) (h4 : c.code = bytes)
    (h5 : (c.maxLocals == mx && c.exceptionTable.isEmpty && decide (c.maxStack ≤ mostOperands) && decide (meth.sig.returnType = rt) && !meth.locks && decide (parseMethodDescriptor y.desc = some meth.sig)) = true) : (Jvm.Cond.code y bytes mx rt).before a s = true := by
  simp only [Bool.and_eq_true, beq_iff_eq, Bool.not_eq_true', decide_eq_true_eq] at h5
  obtain ⟨⟨⟨⟨⟨g1, g2⟩, g3⟩, g4⟩, g5⟩, g6⟩ := h5
  simp [Cond.before, Cond.holds, Cond.value, h1, h2, h3, h4, g1, g2, g3, g4, g5, g6]
def isCode : Jvm.Cond → Bool
  | .code _ _ _ _ => true
  | _ => false
theorem all_split {L : List Jvm.Cond} {P : Jvm.Cond → Bool} (h1 : L.all (fun c => isCode c || P c) = true) (h2 : ∀ c ∈ L.filter isCode, P c = true) : L.all P = true := by
  refine List.all_eq_true.mpr fun c hc => ?_
  have h := List.all_eq_true.mp h1 c hc
  rcases Bool.eq_false_or_eq_true (isCode c) with hi | hi
  · exact h2 c (List.mem_filter.mpr ⟨hc, hi⟩)
  · simpa [hi] using h
set_option maxRecDepth 65536 in
theorem w_c0 : (Jvm.Cond.code x code maxLocals ret).before args0 about1 = true := code_word (m := ⟨1, 1⟩) (meth := k1m1) (c := k1c1) (by decide +kernel) rfl rfl rfl (by decide +kernel)
set_option maxRecDepth 65536 in
theorem w_c1 : (Jvm.Cond.code ({ cls := "com/example/buurt/buurt/model/Bm25", name := "<init>", desc := "(DDD)V" } : Jvm.MethodName) prog_23_method_1_code (7 : Nat) (Option.none : Option Jvm.ClassFile.FieldType)).before args0 about1 = true := code_word (m := ⟨3, 0⟩) (meth := k3m0) (c := k3c0) (by decide +kernel) rfl rfl rfl (by decide +kernel)
set_option maxRecDepth 65536 in
theorem w_c2 : (Jvm.Cond.code ({ cls := "java/lang/Record", name := "<init>", desc := "()V" } : Jvm.MethodName) jdk_30_method_1_code (1 : Nat) (Option.none : Option Jvm.ClassFile.FieldType)).before args0 about1 = true := code_word (m := ⟨2, 0⟩) (meth := k2m0) (c := k2c0) (by decide +kernel) rfl rfl rfl (by decide +kernel)
set_option maxRecDepth 65536 in
theorem w_c3 : (Jvm.Cond.code ({ cls := "java/lang/Object", name := "<init>", desc := "()V" } : Jvm.MethodName) object_method_1_code (1 : Nat) (Option.none : Option Jvm.ClassFile.FieldType)).before args0 about1 = true := code_word (m := ⟨0, 0⟩) (meth := k0m0) (c := k0c0) (by decide +kernel) rfl rfl rfl (by decide +kernel)
set_option maxRecDepth 65536 in
theorem w_c4 : (Jvm.Cond.code ({ cls := "com/example/buurt/buurt/model/Bm25", name := "requireSaturation", desc := "(Ljava/lang/String;D)V" } : Jvm.MethodName) prog_23_method_4_code (3 : Nat) (Option.none : Option Jvm.ClassFile.FieldType)).before args0 about1 = true := code_word (m := ⟨3, 2⟩) (meth := k3m2) (c := k3c2) (by decide +kernel) rfl rfl rfl (by decide +kernel)
set_option maxRecDepth 65536 in
theorem w_c5 : (Jvm.Cond.code ({ cls := "java/lang/Double", name := "valueOf", desc := "(D)Ljava/lang/Double;" } : Jvm.MethodName) jdk_117_method_4_code (2 : Nat) (Option.some (Jvm.ClassFile.FieldType.object "java/lang/Double"))).before args0 about1 = true := code_word (m := ⟨11, 0⟩) (meth := k11m0) (c := k11c0) (by decide +kernel) rfl rfl rfl (by decide +kernel)
set_option maxRecDepth 65536 in
theorem w_c6 : (Jvm.Cond.code ({ cls := "java/lang/Double", name := "<init>", desc := "(D)V" } : Jvm.MethodName) jdk_117_method_9_code (3 : Nat) (Option.none : Option Jvm.ClassFile.FieldType)).before args0 about1 = true := code_word (m := ⟨11, 1⟩) (meth := k11m1) (c := k11c1) (by decide +kernel) rfl rfl rfl (by decide +kernel)
set_option maxRecDepth 65536 in
theorem w_c7 : (Jvm.Cond.code ({ cls := "java/lang/Number", name := "<init>", desc := "()V" } : Jvm.MethodName) jdk_18_method_1_code (1 : Nat) (Option.none : Option Jvm.ClassFile.FieldType)).before args0 about1 = true := code_word (m := ⟨10, 0⟩) (meth := k10m0) (c := k10c0) (by decide +kernel) rfl rfl rfl (by decide +kernel)
set_option maxRecDepth 65536 in
theorem w_c8 : (Jvm.Cond.code ({ cls := "com/example/buurt/buurt/model/Parameters", name := "require", desc := "(Ljava/lang/String;Ljava/lang/Object;ZLjava/lang/String;)V" } : Jvm.MethodName) prog_44_method_4_code (4 : Nat) (Option.none : Option Jvm.ClassFile.FieldType)).before args0 about1 = true := code_word (m := ⟨12, 2⟩) (meth := k12m2) (c := k12c2) (by decide +kernel) rfl rfl rfl (by decide +kernel)
set_option maxRecDepth 65536 in
theorem w_c9 : (Jvm.Cond.code ({ cls := "com/example/buurt/buurt/model/Parameters", name := "requireFraction", desc := "(Ljava/lang/String;D)V" } : Jvm.MethodName) prog_44_method_2_code (3 : Nat) (Option.none : Option Jvm.ClassFile.FieldType)).before args0 about1 = true := code_word (m := ⟨12, 1⟩) (meth := k12m1) (c := k12c1) (by decide +kernel) rfl rfl rfl (by decide +kernel)
set_option maxRecDepth 65536 in
theorem w_c10 : (Jvm.Cond.code ({ cls := "com/example/buurt/buurt/model/Bm25", name := "weight", desc := "(DDDDD)D" } : Jvm.MethodName) prog_23_method_3_code (13 : Nat) (Option.some Jvm.ClassFile.FieldType.double)).before args0 about1 = true := code_word (m := ⟨3, 1⟩) (meth := k3m1) (c := k3c1) (by decide +kernel) rfl rfl rfl (by decide +kernel)
def codes1 : List Jvm.Cond := [Jvm.Cond.code x code maxLocals ret, Jvm.Cond.code ({ cls := "com/example/buurt/buurt/model/Bm25", name := "<init>", desc := "(DDD)V" } : Jvm.MethodName) prog_23_method_1_code (7 : Nat) (Option.none : Option Jvm.ClassFile.FieldType), Jvm.Cond.code ({ cls := "java/lang/Record", name := "<init>", desc := "()V" } : Jvm.MethodName) jdk_30_method_1_code (1 : Nat) (Option.none : Option Jvm.ClassFile.FieldType), Jvm.Cond.code ({ cls := "java/lang/Object", name := "<init>", desc := "()V" } : Jvm.MethodName) object_method_1_code (1 : Nat) (Option.none : Option Jvm.ClassFile.FieldType), Jvm.Cond.code ({ cls := "com/example/buurt/buurt/model/Bm25", name := "requireSaturation", desc := "(Ljava/lang/String;D)V" } : Jvm.MethodName) prog_23_method_4_code (3 : Nat) (Option.none : Option Jvm.ClassFile.FieldType), Jvm.Cond.code ({ cls := "java/lang/Double", name := "valueOf", desc := "(D)Ljava/lang/Double;" } : Jvm.MethodName) jdk_117_method_4_code (2 : Nat) (Option.some (Jvm.ClassFile.FieldType.object "java/lang/Double")), Jvm.Cond.code ({ cls := "java/lang/Double", name := "<init>", desc := "(D)V" } : Jvm.MethodName) jdk_117_method_9_code (3 : Nat) (Option.none : Option Jvm.ClassFile.FieldType), Jvm.Cond.code ({ cls := "java/lang/Number", name := "<init>", desc := "()V" } : Jvm.MethodName) jdk_18_method_1_code (1 : Nat) (Option.none : Option Jvm.ClassFile.FieldType), Jvm.Cond.code ({ cls := "com/example/buurt/buurt/model/Parameters", name := "require", desc := "(Ljava/lang/String;Ljava/lang/Object;ZLjava/lang/String;)V" } : Jvm.MethodName) prog_44_method_4_code (4 : Nat) (Option.none : Option Jvm.ClassFile.FieldType), Jvm.Cond.code ({ cls := "com/example/buurt/buurt/model/Parameters", name := "requireFraction", desc := "(Ljava/lang/String;D)V" } : Jvm.MethodName) prog_44_method_2_code (3 : Nat) (Option.none : Option Jvm.ClassFile.FieldType), Jvm.Cond.code ({ cls := "com/example/buurt/buurt/model/Bm25", name := "weight", desc := "(DDDDD)D" } : Jvm.MethodName) prog_23_method_3_code (13 : Nat) (Option.some Jvm.ClassFile.FieldType.double)]
set_option maxRecDepth 65536 in
theorem codes_eq : words1.filter isCode = codes1 := rfl
theorem w_codes : ∀ c ∈ words1.filter isCode, c.before args0 about1 = true := by
  rw [codes_eq]
  intro c hc
  simp only [codes1, List.mem_cons, List.not_mem_nil, or_false] at hc
  rcases hc with rfl | rfl | rfl | rfl | rfl | rfl | rfl | rfl | rfl | rfl | rfl
  · exact w_c0
  · exact w_c1
  · exact w_c2
  · exact w_c3
  · exact w_c4
  · exact w_c5
  · exact w_c6
  · exact w_c7
  · exact w_c8
  · exact w_c9
  · exact w_c10
set_option maxRecDepth 65536 in
theorem w_t1 : (words1.take 24).all (fun c => isCode c || c.before args0 about1) = true := by decide +kernel
set_option maxRecDepth 65536 in
theorem w_t2 : ((words1.drop 24).take 24).all (fun c => isCode c || c.before args0 about1) = true := by decide +kernel
set_option maxRecDepth 65536 in
theorem w_t3 : (((words1.drop 24).drop 24).take 24).all (fun c => isCode c || c.before args0 about1) = true := by decide +kernel
set_option maxRecDepth 65536 in
theorem w_t4 : (((words1.drop 24).drop 24).drop 24).all (fun c => isCode c || c.before args0 about1) = true := by decide +kernel
theorem w_tables : (allAtoms (Jvm.Cond.code x code maxLocals ret :: tables_1)).before args0 about1 = true := by
  rw [allAtoms_all]
  show words1.all (fun c => c.before args0 about1) = true
  refine all_split ?_ w_codes
  rw [← List.take_append_drop 24 words1, List.all_append, w_t1, ← List.take_append_drop 24 (words1.drop 24), List.all_append, w_t2, ← List.take_append_drop 24 ((words1.drop 24).drop 24), List.all_append, w_t3, w_t4]
  rfl
set_option maxRecDepth 65536 in
theorem w_case : (Jvm.Cond.and given_1 narrow_1).before args0 about1 = true := by decide +kernel
theorem w_applies : (headSpec (Jvm.Cond.code x code maxLocals ret :: tables_1) room_1).applies x e0.platform about1 = true :=
  (Spec.applies_iff w_frames).mpr ⟨w_running, w_runnable, w_alone, w_named, w_hears, w_ripe, w_room, w_tables⟩
theorem atStart : AtStart classFile x code maxLocals ret World_1 tables_1 room_1 Calls_1 rest_1 Pre_1 launch0 p0 e0 about1 theMethod args0 below0 :=
  ⟨lists_1, trivial, launch0.admits_env _ _ _, launch0.least_env, fairChoices_fair.cas, fairChoices_fair.clock, w_frames, w_args, w_heap, w_applies, trivial, trivial, w_case⟩
end start1
theorem witness_1 : WitnessClaimed_1 := ⟨start1.p0, start1.e0, start1.about1, start1.theMethod, start1.args0, start1.below0, start1.atStart⟩
end Jvm.Pilot.@@N@@
