import JvmDerived
import JvmDerived.Pilot.@@N@@Statement
import JvmDerived.Pilot.@@N@@Code
set_option linter.unusedVariables false
set_option linter.unusedSimpArgs false
namespace Jvm.Pilot.@@N@@
open Jvm Jvm.ClassFile Sem Op Lib Jvm.Free Jvm.Stand Jvm.LawKit Jvm.RoadKit Bundle Jvm.Free.Fl Jvm.Pilot.@@N@@.Jvm.D
theorem own_w {a0 : Array Value} {Z : State} (hw : ∀ d ∈ tables_1, d.before a0 Z = true) (i : Nat) {d : Jvm.Cond} (h : tables_1[i]? = some d) : d.before a0 Z = true := hw _ (List.mem_of_getElem? h)
abbrev own_S (p : Program) (e : Env) (below : List Frame) (T : State) (m : MethodId) (pc : Nat) (Ls : Array Slot) (st : List Value) (t : State) : Prop := Steps p.tables e below (T.setTop (mkF m pc Ls st)) t
abbrev oI (x : Int32) : Slot := .val (.int x)
abbrev oJ (x : Int64) : Slot := .val (.long x)
abbrev oD (x : UInt64) : Slot := .val (.double x)
abbrev oR (x : Addr) : Slot := .val (.ref x)
abbrev oU : Slot := .unset
abbrev oV : Slot := .second
section Re
variable {tb : Tables} {e : Env} {below : List Frame} {T target : State} {m : MethodId} {pc : Nat} {Ls : Array Slot} {rest : List Value}
theorem reI {x y : Int32} (h : x = y) (k : Steps tb e below (T.setTop (mkF m pc Ls (.int y :: rest))) target) : Steps tb e below (T.setTop (mkF m pc Ls (.int x :: rest))) target := by rw [h]; exact k
theorem reJ {x y : Int64} (h : x = y) (k : Steps tb e below (T.setTop (mkF m pc Ls (.long y :: rest))) target) : Steps tb e below (T.setTop (mkF m pc Ls (.long x :: rest))) target := by rw [h]; exact k
theorem reD {x y : UInt64} (h : x = y) (k : Steps tb e below (T.setTop (mkF m pc Ls (.double y :: rest))) target) : Steps tb e below (T.setTop (mkF m pc Ls (.double x :: rest))) target := by rw [h]; exact k
theorem re2I {v : Value} {x y : Int32} (h : x = y) (k : Steps tb e below (T.setTop (mkF m pc Ls (v :: .int y :: rest))) target) : Steps tb e below (T.setTop (mkF m pc Ls (v :: .int x :: rest))) target := by rw [h]; exact k
theorem own_nnl {e v : UInt64} (h : e = v) (hv : NoNaN64 v) : NoNaN64 e := h ▸ hv
end Re
section OwnFloat
open Jvm.FP
/-- finite, and worth z units of 2^-1074 -/
def own_At (a : UInt64) (z : Int) : Prop := ∃ s c q, Core.val64 a = .fin s c q ∧ Core.signed s (Core.inUnits c q (-1074)) = z
/-- a magnitude that a double has exactly -/
def own_Rep (n : Nat) : Prop := ∃ m e : Nat, n = m * 2 ^ e ∧ m < 2 ^ 53 ∧ e ≤ 2045
theorem own_shift {A C a b a' b' : Nat} (h : A * 2 ^ a = C * 2 ^ b) (hab : a + b' = a' + b) : A * 2 ^ a' = C * 2 ^ b' := by
  have h1 : A * 2 ^ a' * 2 ^ b = C * 2 ^ b' * 2 ^ b := by
    calc A * 2 ^ a' * 2 ^ b = A * (2 ^ a' * 2 ^ b) := Nat.mul_assoc _ _ _
      _ = A * 2 ^ (a' + b) := by rw [Nat.pow_add]
      _ = A * 2 ^ (a + b') := by rw [hab]
      _ = A * 2 ^ a * 2 ^ b' := by rw [Nat.pow_add, Nat.mul_assoc]
      _ = C * 2 ^ b * 2 ^ b' := by rw [h]
      _ = C * 2 ^ b' * 2 ^ b := by rw [Nat.mul_assoc, Nat.mul_comm (2 ^ b), Nat.mul_assoc]
  exact Nat.eq_of_mul_eq_mul_right (Nat.two_pow_pos b) h1
theorem own_fit (s : Bool) {n : Nat} (h : own_Rep n) : ∃ c q, Core.fits Core.b64 (.fin s c q) ∧ Core.inUnits c q (-1074) = n := by
  obtain ⟨m, e, rfl, hm, he⟩ := h
  have h1 : Core.b64.qmin ≤ -1074 + (e : Int) := by rw [Core.qmin_b64]; omega
  have h2 : -1074 + (e : Int) ≤ Core.b64.qmax := by rw [show Core.b64.qmax = 971 by decide +kernel]; omega
  obtain ⟨c, q, hr, hu⟩ := Core.round_exact Core.good_b64 s (c := m) (q := -1074 + (e : Int)) hm h1 h2
  refine ⟨c, q, ?_, ?_⟩
  · rw [← hr]; exact Core.round_fits Core.good_b64 _
  · rw [Core.qmin_b64] at hu
    rw [hu]
    show m * 2 ^ (-1074 + (e : Int) - -1074).toNat = m * 2 ^ e
    congr 2
    omega
/-- rounding a ratio that a double has exactly -/
theorem own_rr {s : Bool} {A B n : Nat} {e : Int} (hB : 0 < B) (hn : own_Rep n) (h : A * 2 ^ (e + 1074).toNat = n * B * 2 ^ (-(e + 1074)).toNat) :
    ∃ c q, Core.roundRatio Core.b64 s A B e = .fin s c q ∧ Core.inUnits c q (-1074) = n := by
  obtain ⟨c, q, hf, hu⟩ := own_fit s hn
  refine ⟨c, q, Core.roundRatio_exact Core.good_b64 hB hf ?_, hu⟩
  have hq : -1074 ≤ q := by have := hf.2.1; rw [Core.qmin_b64] at this; exact this
  rw [← hu] at h
  unfold Core.inUnits at h
  have h' : A * 2 ^ (e + 1074).toNat = (c * B) * 2 ^ ((q - -1074).toNat + (-(e + 1074)).toNat) := by
    rw [h, Nat.pow_add]; simp only [Nat.mul_assoc, Nat.mul_left_comm, Nat.mul_comm]
  exact own_shift h' (by omega)
theorem own_at_fin {a : UInt64} {z : Int} (h : own_At a z) : Fin64 a := by
  obtain ⟨s, c, q, h, -⟩ := h
  exact fin64_core.mpr ⟨s, c, q, h⟩
theorem own_at_nn {a : UInt64} {z : Int} (h : own_At a z) : NoNaN64 a := (own_at_fin h).noNaN
theorem own_at_val {a : UInt64} {z : Int} (h : own_At a z) : Core.val64 a ≠ .nan ∧ Core.zval Core.b64 (Core.val64 a) = z := by
  obtain ⟨s, c, q, h, hz⟩ := h
  rw [h]
  refine ⟨nofun, ?_⟩
  show Core.signed s (Core.inUnits c q Core.b64.qmin) = z
  rw [Core.qmin_b64]; exact hz
theorem own_cmp {a b : UInt64} {x y : Int} (ha : own_At a x) (hb : own_At b y) : FP.dcmp a b = some (compare x y) := by
  have h1 := own_at_val ha; have h2 := own_at_val hb
  rw [← h1.2, ← h2.2]; exact Core.dcmp_zval h1.1 h2.1
theorem own_cmpV {a b : UInt64} {x y : Int} (ha : own_At a x) (hb : own_At b y) (o : CmpOp) : cmpValue (FP.dcmp a b) o = if x < y then -1 else if x = y then 0 else 1 := by
  rw [own_cmp ha hb]
  rcases Int.lt_trichotomy x y with h | h | h
  · rw [if_pos h, show compare x y = .lt from by simp [compare, compareOfLessAndEq, h]]; cases o <;> rfl
  · rw [if_neg (by omega), if_pos h, show compare x y = .eq from by subst h; simp [compare, compareOfLessAndEq]]; cases o <;> rfl
  · rw [if_neg (by omega), if_neg (by omega), show compare x y = .gt from by simp [compare, compareOfLessAndEq, show ¬ x < y by omega, show ¬ x = y by omega]]; cases o <;> rfl
theorem own_eqV {a b : UInt64} {x y : Int} (ha : own_At a x) (hb : own_At b y) (h : x = y) (o : CmpOp) : cmpValue (FP.dcmp a b) o = 0 := by
  rw [own_cmpV ha hb, if_neg (by omega), if_pos h]
theorem own_int {i : Int} {a : UInt64} (h : Core.DInt i a) : own_At a (i * (Core.one64 : Int)) := by
  have hz := Core.DInt_zval h
  unfold Core.DInt at h
  cases e : Core.val64 a with
  | nan => rw [e] at h; exact h.elim
  | inf s => rw [e] at h; exact h.elim
  | fin s c q =>
    refine ⟨s, c, q, e, ?_⟩
    rw [e] at hz
    rw [← hz]
    show _ = Core.signed s (Core.inUnits c q Core.b64.qmin)
    rw [Core.qmin_b64]
theorem own_dint_fin {i : Int} {a : UInt64} (h : Core.DInt i a) : Fin64 a := own_at_fin (own_int h)
theorem own_dint_nn {i : Int} {a : UInt64} (h : Core.DInt i a) : NoNaN64 a := (own_dint_fin h).noNaN
theorem own_icmp {a b : UInt64} {x y : Int} (ha : Core.DInt x a) (hb : Core.DInt y b) (o : CmpOp) : cmpValue (FP.dcmp a b) o = if x < y then -1 else if x = y then 0 else 1 := by
  rw [show FP.dcmp a b = some (compare x y) from Core.dcmp_int ha hb]
  rcases Int.lt_trichotomy x y with h | h | h
  · rw [if_pos h, show compare x y = .lt from by simp [compare, compareOfLessAndEq, h]]; cases o <;> rfl
  · rw [if_neg (by omega), if_pos h, show compare x y = .eq from by subst h; simp [compare, compareOfLessAndEq]]; cases o <;> rfl
  · rw [if_neg (by omega), if_neg (by omega), show compare x y = .gt from by simp [compare, compareOfLessAndEq, show ¬ x < y by omega, show ¬ x = y by omega]]; cases o <;> rfl
theorem own_ieq {a b : UInt64} {x y : Int} (ha : Core.DInt x a) (hb : Core.DInt y b) (h : x = y) (o : CmpOp) : cmpValue (FP.dcmp a b) o = 0 := by
  rw [own_icmp ha hb, if_neg (by omega), if_pos h]
/-- the quotient of two whole numbers, as one rounding of their ratio -/
theorem own_quot {i j : Int} {a b : UInt64} (ha : Core.DInt i a) (hb : Core.DInt j b) (hj : j ≠ 0) :
    ∃ s, Core.val64 (FP.ddiv a b) = Core.roundRatio Core.b64 s i.natAbs j.natAbs 0 ∧ (i ≠ 0 → s = (decide (i < 0) != decide (j < 0))) := by
  show ∃ s, Core.val64 (Core.ddiv a b) = _ ∧ _
  rw [Core.val64_ddiv]
  unfold Core.DInt at ha hb
  generalize Core.val64 a = x at ha
  generalize Core.val64 b = y at hb
  cases x with
  | nan => exact ha.elim
  | inf => exact ha.elim
  | fin s c q =>
  cases y with
  | nan => exact hb.elim
  | inf => exact hb.elim
  | fin t d r =>
    have hd : d ≠ 0 := fun h => hj ((Core.whole_zero hb).mp h)
    refine ⟨s != t, ?_, fun hi => by rw [Core.whole_sign ha hi, Core.whole_sign hb hj]⟩
    show (if d = 0 then _ else Core.roundRatio Core.b64 (s != t) c d (q - r)) = _
    rw [if_neg hd]
    refine Core.roundRatio_congr (by omega) (by omega) ?_
    have h1 := Core.whole_natAbs ha
    have h2 := Core.whole_natAbs hb
    have h3 : (c * j.natAbs) * 2 ^ (q.toNat + (-r).toNat) = (i.natAbs * d) * 2 ^ ((-q).toNat + r.toNat) := by
      calc (c * j.natAbs) * 2 ^ (q.toNat + (-r).toNat) = (c * 2 ^ q.toNat) * (j.natAbs * 2 ^ (-r).toNat) := by rw [Nat.pow_add]; simp only [Nat.mul_assoc, Nat.mul_left_comm, Nat.mul_comm]
        _ = (i.natAbs * 2 ^ (-q).toNat) * (d * 2 ^ r.toNat) := by rw [h1, h2]
        _ = (i.natAbs * d) * 2 ^ ((-q).toNat + r.toNat) := by rw [Nat.pow_add]; simp only [Nat.mul_assoc, Nat.mul_left_comm, Nat.mul_comm]
    exact own_shift h3 (by omega)
/-- a quotient that comes out whole -/
theorem own_ddiv {i j k : Int} {a b : UInt64} (ha : Core.DInt i a) (hb : Core.DInt j b) (hj : j ≠ 0) (hk : i = k * j) (hs : k.natAbs ≤ 2 ^ 53) : Core.DInt k (FP.ddiv a b) := by
  obtain ⟨s, hv, hsgn⟩ := own_quot ha hb hj
  unfold Core.DInt
  rw [hv]
  have hw : Core.Whole k (.fin s k.natAbs 0) := by
    show Core.signed s (k.natAbs * 2 ^ (0 : Int).toNat) = k * ((2 ^ (-(0 : Int)).toNat : Nat) : Int)
    by_cases h0 : k = 0
    · subst h0; simp [Core.signed]
    · have hi : i ≠ 0 := by rw [hk]; exact Int.mul_ne_zero h0 hj
      have hsk : s = decide (k < 0) := by
        rw [hsgn hi, hk]
        rcases Int.lt_or_gt_of_ne h0 with a1 | a1 <;> rcases Int.lt_or_gt_of_ne hj with a2 | a2
        · have := Int.mul_pos_of_neg_of_neg a1 a2; simp [show ¬ k * j < 0 by omega, a1, a2]
        · have := Int.mul_neg_of_neg_of_pos a1 a2; simp [this, a1, show ¬ j < 0 by omega]
        · have := Int.mul_neg_of_pos_of_neg a1 a2; simp [this, show ¬ k < 0 by omega, a2]
        · have := Int.mul_pos a1 a2; simp [show ¬ k * j < 0 by omega, show ¬ k < 0 by omega, show ¬ j < 0 by omega]
      rw [hsk]
      by_cases hn : k < 0
      · simp [Core.signed, hn]; omega
      · simp [Core.signed, hn]; omega
  have h1 : Core.roundRatio Core.b64 s i.natAbs j.natAbs 0 = Core.round Core.b64 (.fin s k.natAbs 0) := by
    show _ = Core.roundRatio Core.b64 s k.natAbs 1 0
    refine Core.roundRatio_congr (by omega) (by omega) ?_
    rw [hk, Int.natAbs_mul]; simp
  rw [h1]
  exact Core.whole_round Core.good_b64 Core.wide_b64 hs hw
theorem own_zv {s : Bool} {c : Nat} {q x : Int} (h : Core.signed s (Core.inUnits c q (-1074)) = x) : Core.zval Core.b64 (.fin s c q) = x := by
  show Core.signed s (Core.inUnits c q Core.b64.qmin) = x
  rw [Core.qmin_b64]; exact h
theorem own_sg {s : Bool} {k : Nat} {z : Int} (h : Core.signed s k = z) : Core.signed s z.natAbs = z := by rw [← h, Core.natAbs_signed]
theorem own_sum {a b : UInt64} {x y : Int} (ha : own_At a x) (hb : own_At b y) (hr : own_Rep (x + y).natAbs) : own_At (FP.dadd a b) (x + y) := by
  obtain ⟨s, c, q, ea, hx⟩ := ha
  obtain ⟨t, d, r, eb, hy⟩ := hb
  have fa := Core.val64_fits a; rw [ea] at fa
  have fb := Core.val64_fits b; rw [eb] at fb
  obtain ⟨sg, n, e, he, hq, hs⟩ := Core.sum_units fa fb
  rw [own_zv hx, own_zv hy, Core.qmin_b64] at hs
  rw [Core.qmin_b64] at hq
  have hn : n * 2 ^ (e + 1074).toNat = (x + y).natAbs := by
    rw [← hs, Core.natAbs_signed]; unfold Core.inUnits; congr 2
  obtain ⟨c', q', hr', hu⟩ := own_rr (s := sg) (A := n) (B := 1) (e := e) (by decide) hr (by rw [hn, show (-(e + 1074)).toNat = 0 by omega]; simp)
  refine ⟨sg, c', q', ?_, ?_⟩
  · show Core.val64 (Core.dadd a b) = _
    rw [Core.val64_dadd, ea, eb, he]; exact hr'
  · rw [hu]; exact own_sg hs
theorem own_neg {a : UInt64} {x : Int} (ha : own_At a x) : own_At (FP.dneg a) (-x) := by
  obtain ⟨s, c, q, ea, hx⟩ := ha
  refine ⟨!s, c, q, ?_, ?_⟩
  · rw [FP.val64_dneg, ea]; rfl
  · rw [← hx]; cases s <;> simp [Core.signed]
theorem own_sub {a b : UInt64} {x y : Int} (ha : own_At a x) (hb : own_At b y) (hr : own_Rep (x - y).natAbs) : own_At (FP.dsub a b) (x - y) := by
  obtain ⟨s, c, q, ea, hx⟩ := ha
  obtain ⟨t, d, r, eb, hy⟩ := hb
  have fa := Core.val64_fits a; rw [ea] at fa
  have fb := Core.val64_fits b; rw [eb] at fb
  have fb' : Core.fits Core.b64 (.fin (!t) d r) := fb
  have hy' : Core.signed (!t) (Core.inUnits d r (-1074)) = -y := by rw [← hy]; cases t <;> simp [Core.signed]
  obtain ⟨sg, n, e, he, hq, hs⟩ := Core.sum_units fa fb'
  rw [own_zv hx, own_zv hy', Core.qmin_b64, ← Int.sub_eq_add_neg] at hs
  rw [Core.qmin_b64] at hq
  have hn : n * 2 ^ (e + 1074).toNat = (x - y).natAbs := by
    rw [← hs, Core.natAbs_signed]; unfold Core.inUnits; congr 2
  obtain ⟨c', q', hr', hu⟩ := own_rr (s := sg) (A := n) (B := 1) (e := e) (by decide) hr (by rw [hn, show (-(e + 1074)).toNat = 0 by omega]; simp)
  refine ⟨sg, c', q', ?_, ?_⟩
  · show Core.val64 (Core.dsub a b) = _
    rw [Core.val64_dsub, ea, eb]
    show Core.round Core.b64 (Core.exactSum (.fin s c q) (.fin (!t) d r)) = _
    rw [he]; exact hr'
  · rw [hu]; exact own_sg hs
theorem own_mul {a b : UInt64} {x y z : Int} (ha : own_At a x) (hb : own_At b y) (hz : x * y = z * (Core.one64 : Int)) (hr : own_Rep z.natAbs) : own_At (FP.dmul a b) z := by
  obtain ⟨s, c, q, ea, hx⟩ := ha
  obtain ⟨t, d, r, eb, hy⟩ := hb
  have fa := Core.val64_fits a; rw [ea] at fa
  have fb := Core.val64_fits b; rw [eb] at fb
  obtain ⟨he, hq, hu⟩ := Core.product_units fa fb
  rw [Core.qmin_b64] at hq hu
  have hX : Core.zmag Core.b64 (.fin s c q) = x.natAbs := by
    rw [← hx, Core.natAbs_signed]; show Core.inUnits c q Core.b64.qmin = _; rw [Core.qmin_b64]
  have hY : Core.zmag Core.b64 (.fin t d r) = y.natAbs := by
    rw [← hy, Core.natAbs_signed]; show Core.inUnits d r Core.b64.qmin = _; rw [Core.qmin_b64]
  have hN : x.natAbs * y.natAbs = z.natAbs * 2 ^ 1074 := by
    have := congrArg Int.natAbs hz
    rw [Int.natAbs_mul, Int.natAbs_mul, Int.natAbs_natCast] at this
    exact this
  rw [hX, hY, hN] at hu
  have hu' : c * d * 2 ^ (q + r + 2148).toNat = z.natAbs * 2 ^ 1074 := by
    rw [← hu]; unfold Core.inUnits; congr 2
  obtain ⟨c', q', hr', hw⟩ := own_rr (s := s != t) (A := c * d) (B := 1) (e := q + r) (by decide) hr (by rw [Nat.mul_one]; exact own_shift hu' (by omega))
  refine ⟨s != t, c', q', ?_, ?_⟩
  · show Core.val64 (Core.dmul a b) = _
    rw [Core.val64_dmul, ea, eb, he]; exact hr'
  · rw [hw]
    have p : (Core.one64 : Int) ≠ 0 := by have := Core.one64_pos; omega
    refine Int.eq_of_mul_eq_mul_right p ?_
    rw [← hz, ← Core.signed_mul, show z.natAbs * Core.one64 = x.natAbs * y.natAbs from hN.symm, Core.signed_xor, own_sg hx, own_sg hy]
theorem own_div {a b : UInt64} {x y z : Int} (ha : own_At a x) (hb : own_At b y) (h0 : y ≠ 0) (hz : x * (Core.one64 : Int) = z * y) (hr : own_Rep z.natAbs) : own_At (FP.ddiv a b) z := by
  obtain ⟨s, c, q, ea, hx⟩ := ha
  obtain ⟨t, d, r, eb, hy⟩ := hb
  have fa := Core.val64_fits a; rw [ea] at fa
  have fb := Core.val64_fits b; rw [eb] at fb
  have hq : -1074 ≤ q := by have := fa.2.1; rw [Core.qmin_b64] at this; exact this
  have hq2 : -1074 ≤ r := by have := fb.2.1; rw [Core.qmin_b64] at this; exact this
  have hd : d ≠ 0 := fun h => h0 (by rw [← hy, h]; unfold Core.inUnits; rw [Nat.zero_mul]; exact Core.signed_zero t)
  have hX : c * 2 ^ (q + 1074).toNat = x.natAbs := by
    rw [← hx, Core.natAbs_signed]; unfold Core.inUnits; congr 2
  have hY : d * 2 ^ (r + 1074).toNat = y.natAbs := by
    rw [← hy, Core.natAbs_signed]; unfold Core.inUnits; congr 2
  have hN : x.natAbs * 2 ^ 1074 = z.natAbs * y.natAbs := by
    have := congrArg Int.natAbs hz
    rw [Int.natAbs_mul, Int.natAbs_mul, Int.natAbs_natCast] at this
    exact this
  have hu : c * 2 ^ ((q + 1074).toNat + 1074) = (z.natAbs * d) * 2 ^ (r + 1074).toNat := by
    rw [Nat.pow_add, ← Nat.mul_assoc, hX, hN, ← hY, Nat.mul_assoc]
  obtain ⟨c', q', hr', hw⟩ := own_rr (s := s != t) (A := c) (B := d) (e := q - r) (by omega) hr (own_shift hu (by omega))
  refine ⟨s != t, c', q', ?_, ?_⟩
  · show Core.val64 (Core.ddiv a b) = _
    rw [Core.val64_ddiv, ea, eb]
    show (if d = 0 then _ else Core.roundRatio Core.b64 (s != t) c d (q - r)) = _
    rw [if_neg hd]; exact hr'
  · rw [hw]
    refine Int.eq_of_mul_eq_mul_right h0 ?_
    have e1 : Core.signed (s != t) z.natAbs * Core.signed t y.natAbs = Core.signed s (z.natAbs * y.natAbs) := by
      rw [← Core.signed_xor, show ((s != t) != t) = s by cases s <;> cases t <;> rfl]
    rw [own_sg hy] at e1
    rw [e1, ← hz, ← hN, Core.signed_mul, own_sg hx]
    rfl
end OwnFloat
section OwnInt
theorem own_lmul {x y : Int64} {A B : Nat} (hx : x.toInt.natAbs ≤ A) (hy : y.toInt.natAbs ≤ B) (h : A * B < 2 ^ 62) : (x * y).toInt = x.toInt * y.toInt := by
  have hb : (x.toInt * y.toInt).natAbs ≤ A * B := by rw [Int.natAbs_mul]; exact Nat.mul_le_mul hx hy
  rw [Int64.toInt_mul]; exact Int.bmod_eq_of_le (by omega) (by omega)
theorem own_ladd {x y : Int64} {A B : Nat} (hx : x.toInt.natAbs ≤ A) (hy : y.toInt.natAbs ≤ B) (h : A + B < 2 ^ 62) : (x + y).toInt = x.toInt + y.toInt := by
  rw [Int64.toInt_add]; exact Int.bmod_eq_of_le (by omega) (by omega)
theorem own_lsub {x y : Int64} {A B : Nat} (hx : x.toInt.natAbs ≤ A) (hy : y.toInt.natAbs ≤ B) (h : A + B < 2 ^ 62) : (x - y).toInt = x.toInt - y.toInt := by
  rw [Int64.toInt_sub]; exact Int.bmod_eq_of_le (by omega) (by omega)
theorem own_maskL {x m : Int64} {k : Nat} (hk : k ≤ 63) (hm : m.toBitVec.toNat = 2 ^ k - 1) : 0 ≤ (x &&& m).toInt ∧ (x &&& m).toInt < ((2 ^ k : Nat) : Int) := by
  rw [c_maskL x m k hk hm]
  have p : (0 : Int) < ((2 ^ k : Nat) : Int) := by have := Nat.two_pow_pos k; omega
  exact ⟨Int.emod_nonneg _ (by omega), Int.emod_lt_of_pos _ p⟩
theorem own_maskI {x m : Int32} {k : Nat} (hk : k ≤ 31) (hm : m.toBitVec.toNat = 2 ^ k - 1) : 0 ≤ (x &&& m).toInt ∧ (x &&& m).toInt < ((2 ^ k : Nat) : Int) := by
  rw [c_mask x m k hk hm]
  have p : (0 : Int) < ((2 ^ k : Nat) : Int) := by have := Nat.two_pow_pos k; omega
  exact ⟨Int.emod_nonneg _ (by omega), Int.emod_lt_of_pos _ p⟩
theorem own_cases32 {x : Int32} {n : Nat} (h0 : 0 ≤ x.toInt) (h1 : x.toInt < (n : Int)) : ∃ k : Nat, k < n ∧ x = Int32.ofNat k := by
  refine ⟨x.toInt.toNat, by omega, ?_⟩
  apply Int32.toInt_inj.mp
  have hx := x.toInt_lt
  rw [Int32.toInt_ofNat_of_lt (by omega)]
  omega
theorem own_irem {x z m : Int32} (h : z = x % m) {M : Int} (hm : m.toInt = M) (hM : 0 < M) : -M < z.toInt ∧ z.toInt < M ∧ (0 ≤ x.toInt → 0 ≤ z.toInt) := by
  have q := c_irem x m M hm
  rcases (by omega : x.toInt < 0 ∨ 0 ≤ x.toInt) with a | a
  · have := q.2 a; rw [← h] at this
    have b1 := Int.emod_nonneg (-x.toInt) (show M ≠ 0 by omega); have b2 := Int.emod_lt_of_pos (-x.toInt) hM
    omega
  · have := q.1 a; rw [← h] at this
    have b1 := Int.emod_nonneg x.toInt (show M ≠ 0 by omega); have b2 := Int.emod_lt_of_pos x.toInt hM
    omega
theorem own_ple {j k : Nat} (h : j ≤ k) : (2 : Int) ^ j ≤ 2 ^ k := by
  have h1 : ((2 ^ j : Nat) : Int) = (2 : Int) ^ j := Int.natCast_pow 2 j
  have h2 : ((2 ^ k : Nat) : Int) = (2 : Int) ^ k := Int.natCast_pow 2 k
  have h3 : 2 ^ j ≤ 2 ^ k := Nat.pow_le_pow_right (by decide) h
  rw [← h1, ← h2]; omega
end OwnInt
theorem own_D0 : FP.Core.DInt 0 (0 : UInt64) := by
  have h := FP.Core.i2d_int (0 : Int32)
  rw [show FP.Core.i2d 0 = 0 by decide +kernel] at h
  exact h
theorem own_dir {m dl k cf t tf : Int64} (m1 : 1 ≤ m.toInt) (m2 : m.toInt ≤ 1048576) (d1 : 0 ≤ dl.toInt) (d2 : dl.toInt ≤ 1048576) (k1 : 0 ≤ k.toInt) (k2 : k.toInt ≤ 1048576) (c1 : 0 ≤ cf.toInt) (c2 : cf.toInt ≤ k.toInt) (t1 : 1 ≤ t.toInt) (t2 : t.toInt ≤ 1024) (htf : tf = k * (dl + m) - m * cf) :
    FP.Core.DInt m.toInt (FP.l2d m) ∧ FP.Core.DInt (m.toInt * (cf.toInt * t.toInt)) (FP.dmul (FP.l2d m) (FP.l2d (cf * t))) ∧ FP.Core.DInt (m.toInt * cf.toInt) (FP.ddiv (FP.dmul (FP.l2d m) (FP.l2d (cf * t))) (FP.l2d t)) ∧
    FP.Core.DInt (k.toInt * (dl.toInt + m.toInt)) (FP.dadd (FP.l2d tf) (FP.ddiv (FP.dmul (FP.l2d m) (FP.l2d (cf * t))) (FP.l2d t))) ∧ FP.Core.DInt (dl.toInt + m.toInt) (FP.dadd (FP.l2d dl) (FP.l2d m)) ∧
    FP.Core.DInt k.toInt (FP.ddiv (FP.dadd (FP.l2d tf) (FP.ddiv (FP.dmul (FP.l2d m) (FP.l2d (cf * t))) (FP.l2d t))) (FP.dadd (FP.l2d dl) (FP.l2d m))) ∧ FP.Core.DInt k.toInt (FP.l2d k) := by
  have e1 : (cf * t).toInt = cf.toInt * t.toInt := own_lmul (A := 1048576) (B := 1024) (by omega) (by omega) (by decide)
  have e2 : (dl + m).toInt = dl.toInt + m.toInt := own_ladd (A := 1048576) (B := 1048576) (by omega) (by omega) (by decide)
  have e3 : (k * (dl + m)).toInt = k.toInt * (dl.toInt + m.toInt) := by rw [own_lmul (A := 1048576) (B := 2097152) (by omega) (by omega) (by decide), e2]
  have e4 : (m * cf).toInt = m.toInt * cf.toInt := own_lmul (A := 1048576) (B := 1048576) (by omega) (by omega) (by decide)
  have b3 : (k.toInt * (dl.toInt + m.toInt)).natAbs ≤ 1048576 * 2097152 := by rw [Int.natAbs_mul]; exact Nat.mul_le_mul (by omega) (by omega)
  have b4 : (m.toInt * cf.toInt).natAbs ≤ 1048576 * 1048576 := by rw [Int.natAbs_mul]; exact Nat.mul_le_mul (by omega) (by omega)
  have b1 : (cf.toInt * t.toInt).natAbs ≤ 1048576 * 1024 := by rw [Int.natAbs_mul]; exact Nat.mul_le_mul (by omega) (by omega)
  have b5 : (m.toInt * (cf.toInt * t.toInt)).natAbs ≤ 1048576 * (1048576 * 1024) := by rw [Int.natAbs_mul]; exact Nat.mul_le_mul (by omega) b1
  have e5 : tf.toInt = k.toInt * (dl.toInt + m.toInt) - m.toInt * cf.toInt := by rw [htf, own_lsub (A := 1048576 * 2097152) (B := 1048576 * 1048576) (by rw [e3]; exact b3) (by rw [e4]; exact b4) (by decide), e3, e4]
  have Dm := FP.Core.l2d_int (a := m) (by omega)
  have Dc := FP.Core.l2d_int (a := cf * t) (by rw [e1]; omega)
  rw [e1] at Dc
  have Dt := FP.Core.l2d_int (a := t) (by omega)
  have Dk := FP.Core.l2d_int (a := k) (by omega)
  have Dd := FP.Core.l2d_int (a := dl) (by omega)
  have Df := FP.Core.l2d_int (a := tf) (by rw [e5]; omega)
  have D1 := FP.Core.dmul_int Dm Dc (by omega)
  have D2 := own_ddiv (k := m.toInt * cf.toInt) D1 Dt (by omega) (by rw [Int.mul_assoc]) (by omega)
  have D3 := FP.Core.dadd_int Df D2 (by rw [e5]; omega)
  rw [show tf.toInt + m.toInt * cf.toInt = k.toInt * (dl.toInt + m.toInt) by omega] at D3
  have D4 := FP.Core.dadd_int Dd Dm (by omega)
  have D5 := own_ddiv (k := k.toInt) D3 D4 (by omega) rfl (by omega)
  exact ⟨Dm, D1, D2, D3, D4, D5, Dk⟩
theorem own_lemax {x : UInt64} (h : Fin64 x) (h0 : (x &&& 0x7fffffffffffffff) = x) : ¬ ((0 : Int32) < (cmpValue (FP.dcmp x (9218868437227405311 : UInt64)) .g)) := by
  have h1 := (le_max_iff h.noNaN).mpr h
  rw [relLe_iff, h0] at h1
  rcases h1 with q | q
  · rw [show FP.dcmp x (9218868437227405311 : UInt64) = some .lt from q]; decide
  · rw [show FP.dcmp x (9218868437227405311 : UInt64) = some .eq from q]; decide
theorem d2_0 : decode jdk_30_method_1_code 0 = .ok (.aload_n 0, 1) := by decide +kernel
theorem d2_1 : decode jdk_30_method_1_code 1 = .ok (.invokespecial 1, 3) := by decide +kernel
theorem d2_4 : decode jdk_30_method_1_code 4 = .ok (.return_, 1) := by decide +kernel
theorem pn0 : plainName "java/lang/Record" = true := by first | (simp [plainName, overriddenIn]; done) | decide +kernel
theorem efm2 (m : MethodId) (r0 : Addr) : entryFrame m #[(.ref r0)] 1 = mkF m 0 #[.val (.ref r0)] [] := by first | (simp [entryFrame, mkF, argsToLocals, Value.category]; done) | rfl
def Qm2 (Z : State) (r0 : Addr) (h0 : Heap) (n0 : Nat) (v : Option Value) (h : Heap) (L : List Loc) : Prop := v = none ∧ Fr n0 L ∧ (h = h0)
set_option maxRecDepth 65536 in
set_option maxHeartbeats 40000000 in
theorem rmm2 (l : Launch) (Z : State) (a0 : Array Value) (hw : ∀ d ∈ tables_1, d.before a0 Z = true) (ws : List Jvm.Cond) (r0 : Addr) (h0 : Heap) (n0 : Nat) (Z0 : n0 ≤ h0.size)  :
    MetFree l (⟨"java/lang/Record", "<init>", "()V"⟩ : MethodName) (head1 (Jvm.Cond.code (⟨"java/lang/Record", "<init>", "()V"⟩ : MethodName) jdk_30_method_1_code 1 none :: ws) ({ frames := 1, cells := 0, slots := 0, locals := 12 } : Room)) (fun a U => a = #[(.ref r0)] ∧ Z.Warmed39 U.vm ∧ U.heap = h0) (fun _ _ _ _ _ => True) (fun _ U o U' => ∃ v L, o = .returned v ∧ Qm2 Z r0 h0 n0 v U'.heap L ∧ FrameEnd U o U' L ({ frames := 1, cells := 0, slots := 0, locals := 12 } : Room).cells ({ frames := 1, cells := 0, slots := 0, locals := 12 } : Room).slots) := by
  refine MetFree.of_bodySF (plainFor_of_name pn0) hisR ?_
  intro p e s m args below meth c s₁ Bd hml0 hP hK
  obtain ⟨rfl, hZ, hh⟩ := hP
  have hx := Bd.exec
  have hby := Bd.bytes
  have hml : c.maxLocals = 1 := hml0
  have hown : s.vm.findClass "java/lang/Record" = some m.cls := findClass_of_methodNamed Bd.named
  have hnm := (name_of_methodNamed Bd.named Bd.method).1
  have X0 : Stand p l e ({ frames := 1, cells := 0, slots := 0, locals := 12 } : Room) s m #[(.ref r0)] below meth c s₁ [] 0 0 := Stand.of_body Bd
  have e0 : s₁.heap = h0 := by rw [← hh, Bd.state]; rfl
  have N0 := Fr.nil n0
  have pre0 : ∀ t, Steps p.tables e below (s₁.setTop (mkF m 0 #[.val (.ref r0)] [])) t → Steps p.tables e below (s₁.setTop (entryFrame m #[(.ref r0)] 1)) t := fun t k => castTop (efm2 m r0) k
  obtain ⟨T101, X101, e101, st101⟩ := initO X0 hx hZ hown (own_w hw 13 rfl) (own_w hw 14 rfl) (own_w hw 15 rfl) e0 (g := (mkF m 1 #[.val (.ref r0)] [(.ref r0)])) rfl (by rw [hml]; rfl) rfl (hb hby d2_1) (by decide) (W := 0) (by show 2 * 0 + _ ≤ _; exact Nat.le_of_eq rfl) (by decide)
  obtain ⟨fs, hr, hrun, hended, hW, hsame⟩ := X101.leave (v := none) (fun _ => rfl)
  refine ⟨_, _, pre0 _ ?_, hrun, hended, _, _, rfl, ?_, ⟨_, rfl⟩, hW, hsame.mono (by decide) (by decide)⟩
  · show own_S p e below s₁ m 0 #[oR r0] [] _
    refine XS.aloadN X0.here hx rfl (hb hby d2_0) rfl rfl ?_
    show own_S p e below s₁ m 1 #[oR r0] [(.ref r0)] _
    refine st101 _ ?_
    show own_S p e below T101 m 4 #[oR r0] [] _
    exact X101.returnOut hx Bd.returns (hb hby d2_4) hr
  · show Qm2 Z r0 h0 n0 _ T101.heap _
    rw [e101]
    exact ⟨rfl, N0, rfl⟩
theorem d7_0 : decode jdk_18_method_1_code 0 = .ok (.aload_n 0, 1) := by decide +kernel
theorem d7_1 : decode jdk_18_method_1_code 1 = .ok (.invokespecial 1, 3) := by decide +kernel
theorem d7_4 : decode jdk_18_method_1_code 4 = .ok (.return_, 1) := by decide +kernel
theorem pn1 : plainName "java/lang/Number" = true := by first | (simp [plainName, overriddenIn]; done) | decide +kernel
theorem efm7 (m : MethodId) (r0 : Addr) : entryFrame m #[(.ref r0)] 1 = mkF m 0 #[.val (.ref r0)] [] := by first | (simp [entryFrame, mkF, argsToLocals, Value.category]; done) | rfl
def Qm7 (Z : State) (r0 : Addr) (h0 : Heap) (n0 : Nat) (v : Option Value) (h : Heap) (L : List Loc) : Prop := v = none ∧ Fr n0 L ∧ (h = h0)
set_option maxRecDepth 65536 in
set_option maxHeartbeats 40000000 in
theorem rmm7 (l : Launch) (Z : State) (a0 : Array Value) (hw : ∀ d ∈ tables_1, d.before a0 Z = true) (ws : List Jvm.Cond) (r0 : Addr) (h0 : Heap) (n0 : Nat) (Z0 : n0 ≤ h0.size)  :
    MetFree l (⟨"java/lang/Number", "<init>", "()V"⟩ : MethodName) (head1 (Jvm.Cond.code (⟨"java/lang/Number", "<init>", "()V"⟩ : MethodName) jdk_18_method_1_code 1 none :: ws) ({ frames := 1, cells := 0, slots := 0, locals := 12 } : Room)) (fun a U => a = #[(.ref r0)] ∧ Z.Warmed39 U.vm ∧ U.heap = h0) (fun _ _ _ _ _ => True) (fun _ U o U' => ∃ v L, o = .returned v ∧ Qm7 Z r0 h0 n0 v U'.heap L ∧ FrameEnd U o U' L ({ frames := 1, cells := 0, slots := 0, locals := 12 } : Room).cells ({ frames := 1, cells := 0, slots := 0, locals := 12 } : Room).slots) := by
  refine MetFree.of_bodySF (plainFor_of_name pn1) hisR ?_
  intro p e s m args below meth c s₁ Bd hml0 hP hK
  obtain ⟨rfl, hZ, hh⟩ := hP
  have hx := Bd.exec
  have hby := Bd.bytes
  have hml : c.maxLocals = 1 := hml0
  have hown : s.vm.findClass "java/lang/Number" = some m.cls := findClass_of_methodNamed Bd.named
  have hnm := (name_of_methodNamed Bd.named Bd.method).1
  have X0 : Stand p l e ({ frames := 1, cells := 0, slots := 0, locals := 12 } : Room) s m #[(.ref r0)] below meth c s₁ [] 0 0 := Stand.of_body Bd
  have e0 : s₁.heap = h0 := by rw [← hh, Bd.state]; rfl
  have N0 := Fr.nil n0
  have pre0 : ∀ t, Steps p.tables e below (s₁.setTop (mkF m 0 #[.val (.ref r0)] [])) t → Steps p.tables e below (s₁.setTop (entryFrame m #[(.ref r0)] 1)) t := fun t k => castTop (efm7 m r0) k
  obtain ⟨T101, X101, e101, st101⟩ := initO X0 hx hZ hown (own_w hw 44 rfl) (own_w hw 14 rfl) (own_w hw 15 rfl) e0 (g := (mkF m 1 #[.val (.ref r0)] [(.ref r0)])) rfl (by rw [hml]; rfl) rfl (hb hby d7_1) (by decide) (W := 0) (by show 2 * 0 + _ ≤ _; exact Nat.le_of_eq rfl) (by decide)
  obtain ⟨fs, hr, hrun, hended, hW, hsame⟩ := X101.leave (v := none) (fun _ => rfl)
  refine ⟨_, _, pre0 _ ?_, hrun, hended, _, _, rfl, ?_, ⟨_, rfl⟩, hW, hsame.mono (by decide) (by decide)⟩
  · show own_S p e below s₁ m 0 #[oR r0] [] _
    refine XS.aloadN X0.here hx rfl (hb hby d7_0) rfl rfl ?_
    show own_S p e below s₁ m 1 #[oR r0] [(.ref r0)] _
    refine st101 _ ?_
    show own_S p e below T101 m 4 #[oR r0] [] _
    exact X101.returnOut hx Bd.returns (hb hby d7_4) hr
  · show Qm7 Z r0 h0 n0 _ T101.heap _
    rw [e101]
    exact ⟨rfl, N0, rfl⟩
theorem pd0 : parseMethodDescriptor "()V" = some ⟨[], none⟩ := by decide +kernel
theorem d6_0 : decode jdk_117_method_9_code 0 = .ok (.aload_n 0, 1) := by decide +kernel
theorem d6_1 : decode jdk_117_method_9_code 1 = .ok (.invokespecial 113, 3) := by decide +kernel
theorem d6_4 : decode jdk_117_method_9_code 4 = .ok (.aload_n 0, 1) := by decide +kernel
theorem d6_5 : decode jdk_117_method_9_code 5 = .ok (.dload_n 1, 1) := by decide +kernel
theorem d6_6 : decode jdk_117_method_9_code 6 = .ok (.putfield 118, 3) := by decide +kernel
theorem d6_9 : decode jdk_117_method_9_code 9 = .ok (.return_, 1) := by decide +kernel
theorem pn2 : plainName "java/lang/Double" = true := by first | (simp [plainName, overriddenIn]; done) | decide +kernel
theorem efm6 (m : MethodId) (r0 : Addr) (d1 : UInt64) : entryFrame m #[(.ref r0), (.double d1)] 3 = mkF m 0 #[.val (.ref r0), .val (.double d1), .second] [] := by first | (simp [entryFrame, mkF, argsToLocals, Value.category]; done) | rfl
def Qm6 (Z : State) (r0 : Addr) (d1 : UInt64) (u0 : Value) (h0 : Heap) (n0 : Nat) (v : Option Value) (h : Heap) (L : List Loc) : Prop := v = none ∧ Fr n0 L ∧ (Keep h0 h [r0]) ∧ (Exa Z h r0 "java/lang/Double") ∧ (Fld Z h r0 "java/lang/Double" "value" "D" (.double d1))
set_option maxRecDepth 65536 in
set_option maxHeartbeats 40000000 in
theorem rmm6 (l : Launch) (Z : State) (a0 : Array Value) (hw : ∀ d ∈ tables_1, d.before a0 Z = true) (ws : List Jvm.Cond) (r0 : Addr) (d1 : UInt64) (u0 : Value) (h0 : Heap) (n0 : Nat) (Z0 : n0 ≤ h0.size) (F_value_r0 : Fld Z h0 r0 "java/lang/Double" "value" "D" u0) (E_r0 : Exa Z h0 r0 "java/lang/Double") (g_r0 : n0 ≤ r0) :
    MetFree l (⟨"java/lang/Double", "<init>", "(D)V"⟩ : MethodName) (head1 (Jvm.Cond.code (⟨"java/lang/Double", "<init>", "(D)V"⟩ : MethodName) jdk_117_method_9_code 3 none :: ws) ({ frames := 2, cells := 0, slots := 0, locals := 24 } : Room)) (fun a U => a = #[(.ref r0), (.double d1)] ∧ Z.Warmed39 U.vm ∧ U.heap = h0) (fun _ _ _ _ _ => True) (fun _ U o U' => ∃ v L, o = .returned v ∧ Qm6 Z r0 d1 u0 h0 n0 v U'.heap L ∧ FrameEnd U o U' L ({ frames := 2, cells := 0, slots := 0, locals := 24 } : Room).cells ({ frames := 2, cells := 0, slots := 0, locals := 24 } : Room).slots) := by
  refine MetFree.of_bodySF (plainFor_of_name pn2) hisR ?_
  intro p e s m args below meth c s₁ Bd hml0 hP hK
  obtain ⟨rfl, hZ, hh⟩ := hP
  have hx := Bd.exec
  have hby := Bd.bytes
  have hml : c.maxLocals = 3 := hml0
  have hown : s.vm.findClass "java/lang/Double" = some m.cls := findClass_of_methodNamed Bd.named
  have hnm := (name_of_methodNamed Bd.named Bd.method).1
  have X0 : Stand p l e ({ frames := 2, cells := 0, slots := 0, locals := 24 } : Room) s m #[(.ref r0), (.double d1)] below meth c s₁ [] 0 0 := Stand.of_body Bd
  have e0 : s₁.heap = h0 := by rw [← hh, Bd.state]; rfl
  have N0 := Fr.nil n0
  have pre0 : ∀ t, Steps p.tables e below (s₁.setTop (mkF m 0 #[.val (.ref r0), .val (.double d1), .second] [])) t → Steps p.tables e below (s₁.setTop (entryFrame m #[(.ref r0), (.double d1)] 3)) t := fun t k => castTop (efm6 m r0 d1) k
  obtain ⟨_, _, ⟨T101, L101, k101, n101⟩, -, X101, ⟨Lc101, hQ101, l101, y101, z101⟩, st101⟩ := X0.specialBack hx (y := (⟨"java/lang/Number", "<init>", "()V"⟩ : MethodName)) rfl hown (mvT hZ (own_w hw 38 rfl)) (mvT hZ (own_w hw 39 rfl)) (mvT hZ (own_w hw 43 rfl)) (by decide) (backOf (W := 0) (rmm7 l Z a0 hw [] r0 h0 n0 Z0 ) hZ (own_w hw 43 rfl) (own_w hw 42 rfl) (by decide) (by decide)) (g := (mkF m 1 #[.val (.ref r0), .val (.double d1), .second] [(.ref r0)])) rfl (by rw [hml]; rfl) (Steps.refl _) (a := r0) (argsL := []) (rest := []) (lenOf pd0 rfl) rfl (by show 2 * 0 + _ ≤ _; exact Nat.le_of_eq rfl) (hb hby d6_1) (fun _ _ => ⟨rfl, e0, (by decide : 0 + 0 ≤ _), (by decide : 0 + 0 ≤ _)⟩)
  dsimp only [Pt.U, Pt.locs, Pt.cells, Pt.slots] at X101 l101 y101 z101 st101 hQ101
  subst l101 y101 z101
  obtain ⟨rfl, Nq101, P101_0⟩ := hQ101
  have N101 := Fr.app N0 Nq101
  obtain ⟨T102, h102, X102, e102, W102, st102⟩ := putF X101 hx hZ hown (host := "") (Or.inl (own_w hw 45 rfl)) Via.refl P101_0 F_value_r0 E_r0 (Or.inr ⟨(own_w hw 46 rfl), rfl, hnm⟩) (own_w hw 33 rfl) (ty := .double) (by decide) rfl rfl (g := (mkF m 6 #[.val (.ref r0), .val (.double d1), .second] [(.double d1), (.ref r0)])) rfl rfl (hb hby d6_6)
  have Fw102 := F_value_r0.same W102
  have N102 := Fr.snoc X102 N101 g_r0
  have ZZ103 : n0 ≤ h102.size := Nat.le_trans Z0 (Nat.le_of_eq W102.size.symm)
  have KK104 : Keep h0 h102 [r0] := (Keep.refl h0 [r0]).wr W102 (Or.inl (List.mem_of_getElem? (i := 0) rfl))
  obtain ⟨fs, hr, hrun, hended, hW, hsame⟩ := X102.leave (v := none) (fun _ => rfl)
  refine ⟨_, _, pre0 _ ?_, hrun, hended, _, _, rfl, ?_, ⟨_, rfl⟩, hW, hsame.mono (by decide) (by decide)⟩
  · show own_S p e below s₁ m 0 #[oR r0, oD d1, oV] [] _
    refine XS.aloadN X0.here hx rfl (hb hby d6_0) rfl rfl ?_
    show own_S p e below s₁ m 1 #[oR r0, oD d1, oV] [(.ref r0)] _
    refine st101.trans ?_
    show own_S p e below T101 m 4 #[oR r0, oD d1, oV] [] _
    refine XS.aloadN X101.here hx rfl (hb hby d6_4) rfl rfl ?_
    show own_S p e below T101 m 5 #[oR r0, oD d1, oV] [(.ref r0)] _
    refine XS.dloadN X101.here hx rfl (hb hby d6_5) rfl ?_
    show own_S p e below T101 m 6 #[oR r0, oD d1, oV] [(.double d1), (.ref r0)] _
    refine st102 _ ?_
    show own_S p e below T102 m 9 #[oR r0, oD d1, oV] [] _
    exact X102.returnOut hx Bd.returns (hb hby d6_9) hr
  · show Qm6 Z r0 d1 u0 h0 n0 _ T102.heap _
    rw [e102]
    exact ⟨rfl, N102, KK104, (E_r0.wr W102), Fw102⟩
theorem pd1 : parseMethodDescriptor "(D)V" = some ⟨[.double], none⟩ := by decide +kernel
theorem d5_0 : decode jdk_117_method_4_code 0 = .ok (.new 1, 3) := by decide +kernel
theorem d5_3 : decode jdk_117_method_4_code 3 = .ok (.dup, 1) := by decide +kernel
theorem d5_4 : decode jdk_117_method_4_code 4 = .ok (.dload_n 0, 1) := by decide +kernel
theorem d5_5 : decode jdk_117_method_4_code 5 = .ok (.invokespecial 105, 3) := by decide +kernel
theorem d5_8 : decode jdk_117_method_4_code 8 = .ok (.areturn, 1) := by decide +kernel
theorem efm5 (m : MethodId) (d0 : UInt64) : entryFrame m #[(.double d0)] 2 = mkF m 0 #[.val (.double d0), .second] [] := by first | (simp [entryFrame, mkF, argsToLocals, Value.category]; done) | rfl
def Qm5 (Z : State) (d0 : UInt64) (h0 : Heap) (n0 : Nat) (v : Option Value) (h : Heap) (L : List Loc) : Prop := ∃ b : Addr, v = some (.ref b) ∧ Fr n0 L ∧ (Keep h0 h []) ∧ (h0.size ≤ b) ∧ (Exa Z h b "java/lang/Double") ∧ (Fld Z h b "java/lang/Double" "value" "D" (.double d0))
set_option maxRecDepth 65536 in
set_option maxHeartbeats 40000000 in
theorem rmm5 (l : Launch) (Z : State) (a0 : Array Value) (hw : ∀ d ∈ tables_1, d.before a0 Z = true) (ws : List Jvm.Cond) (d0 : UInt64) (h0 : Heap) (n0 : Nat) (Z0 : n0 ≤ h0.size)  :
    MetFree l (⟨"java/lang/Double", "valueOf", "(D)Ljava/lang/Double;"⟩ : MethodName) (head1 (Jvm.Cond.code (⟨"java/lang/Double", "valueOf", "(D)Ljava/lang/Double;"⟩ : MethodName) jdk_117_method_4_code 2 (some (.object "java/lang/Double")) :: ws) ({ frames := 3, cells := 1, slots := 1, locals := 39 } : Room)) (fun a U => a = #[(.double d0)] ∧ Z.Warmed39 U.vm ∧ U.heap = h0) (fun _ _ _ _ _ => True) (fun _ U o U' => ∃ v L, o = .returned v ∧ Qm5 Z d0 h0 n0 v U'.heap L ∧ FrameEnd U o U' L ({ frames := 3, cells := 1, slots := 1, locals := 39 } : Room).cells ({ frames := 3, cells := 1, slots := 1, locals := 39 } : Room).slots) := by
  refine MetFree.of_bodySF (plainFor_of_name pn2) hisR ?_
  intro p e s m args below meth c s₁ Bd hml0 hP hK
  obtain ⟨rfl, hZ, hh⟩ := hP
  have hx := Bd.exec
  have hby := Bd.bytes
  have hml : c.maxLocals = 2 := hml0
  have hown : s.vm.findClass "java/lang/Double" = some m.cls := findClass_of_methodNamed Bd.named
  have hnm := (name_of_methodNamed Bd.named Bd.method).1
  have X0 : Stand p l e ({ frames := 3, cells := 1, slots := 1, locals := 39 } : Room) s m #[(.double d0)] below meth c s₁ [] 0 0 := Stand.of_body Bd
  have e0 : s₁.heap = h0 := by rw [← hh, Bd.state]; rfl
  have N0 := Fr.nil n0
  have pre0 : ∀ t, Steps p.tables e below (s₁.setTop (mkF m 0 #[.val (.double d0), .second] [])) t → Steps p.tables e below (s₁.setTop (entryFrame m #[(.double d0)] 2)) t := fun t k => castTop (efm5 m d0) k
  obtain ⟨T101, h101, X101, e101, E101, A101, D101, -, st101⟩ := newO X0 hx hZ hown (own_w hw 32 rfl) (own_w hw 33 rfl) (own_w hw 30 rfl) e0 (g := (mkF m 0 #[.val (.double d0), .second] [])) rfl (hb hby d5_0) (by decide) (by decide)
  obtain ⟨b101, g101⟩ : ∃ z, z = h0.size := ⟨_, rfl⟩
  rw [← g101] at A101 D101 st101
  have g_b101 : n0 ≤ b101 := Nat.le_trans Z0 (Nat.le_of_eq g101.symm)
  have sz_b101 : h0.size ≤ b101 := Nat.le_trans (Keep.refl h0 []).1 (Nat.le_of_eq g101.symm)
  have ZZ102 : n0 ≤ h101.size := Nat.le_trans Z0 E101.1
  have KK103 : Keep h0 h101 [] := (Keep.refl h0 []).ext E101
  have F_value_b101 : Fld Z h101 b101 "java/lang/Double" "value" "D" (.double 0) := D101 (Or.inr (own_w hw 46 rfl)) (ty := .double) (by decide)
  obtain ⟨_, _, ⟨T104, L104, k104, n104⟩, -, X104, ⟨Lc104, hQ104, l104, y104, z104⟩, st104⟩ := X101.specialBack hx (y := (⟨"java/lang/Double", "<init>", "(D)V"⟩ : MethodName)) rfl hown (mvT hZ (own_w hw 34 rfl)) (mvT hZ (own_w hw 35 rfl)) (mvT hZ (own_w hw 37 rfl)) (by decide) (backOf (W := 1) (rmm6 l Z a0 hw [] b101 d0 (.double 0) h101 n0 ZZ102 F_value_b101 A101 g_b101) hZ (own_w hw 37 rfl) (own_w hw 30 rfl) (by decide) (by decide)) (g := (mkF m 5 #[.val (.double d0), .second] [(.double d0), (.ref b101), (.ref b101)])) rfl (by rw [hml]; rfl) (Steps.refl _) (a := b101) (argsL := [(.double d0)]) (rest := [(.ref b101)]) (lenOf pd1 rfl) rfl (by show 2 * 0 + _ ≤ _; exact Nat.le_of_eq rfl) (hb hby d5_5) (fun _ _ => ⟨rfl, e101, (by decide : 1 + 0 ≤ _), (by decide : 1 + 0 ≤ _)⟩)
  dsimp only [Pt.U, Pt.locs, Pt.cells, Pt.slots] at X104 l104 y104 z104 st104 hQ104
  subst l104 y104 z104
  obtain ⟨rfl, Nq104, P104_0, P104_1, P104_2⟩ := hQ104
  have N104 := Fr.app N0 Nq104
  have ZZ105 : n0 ≤ T104.heap.size := Nat.le_trans ZZ102 P104_0.1
  have KK106 : Keep h0 T104.heap [] := Keep.trans KK103 P104_0 (allS (Or.inr sz_b101) all0)
  obtain ⟨fs, hr, hrun, hended, hW, hsame⟩ := X104.leave (v := some (.ref b101)) (fun h => by rw [Bd.returns] at h; cases h)
  refine ⟨_, _, pre0 _ ?_, hrun, hended, _, _, rfl, ?_, ⟨_, rfl⟩, hW, hsame.mono (by decide) (by decide)⟩
  · show own_S p e below s₁ m 0 #[oD d0, oV] [] _
    refine st101 _ ?_
    show own_S p e below T101 m 3 #[oD d0, oV] [(.ref b101)] _
    refine XS.dup X101.here hx rfl (hb hby d5_3) rfl rfl ?_
    show own_S p e below T101 m 4 #[oD d0, oV] [(.ref b101), (.ref b101)] _
    refine XS.dloadN X101.here hx rfl (hb hby d5_4) rfl ?_
    show own_S p e below T101 m 5 #[oD d0, oV] [(.double d0), (.ref b101), (.ref b101)] _
    refine st104.trans ?_
    show own_S p e below T104 m 8 #[oD d0, oV] [(.ref b101)] _
    exact retOut X104 hx Bd.returns rfl (Or.inr (Or.inr (Or.inr (Or.inr ⟨rfl, rfl, rfl⟩)))) (hb hby d5_8) hr
  · show Qm5 Z d0 h0 n0 _ T104.heap _
    exact ⟨b101, rfl, N104, KK106, sz_b101, P104_1, P104_2⟩
theorem d8_0 : decode prog_44_method_4_code 0 = .ok (.iload_n 2, 1) := by decide +kernel
theorem d8_1 : decode prog_44_method_4_code 1 = .ok (.ifCond .ne 22, 3) := by decide +kernel
theorem d8_23 : decode prog_44_method_4_code 23 = .ok (.return_, 1) := by decide +kernel
theorem pn3 : plainName "com/example/buurt/buurt/model/Parameters" = true := by first | (simp [plainName, overriddenIn]; done) | decide +kernel
theorem efm8 (m : MethodId) (r0 : Addr) (r1 : Addr) (r3 : Addr) : entryFrame m #[(.ref r0), (.ref r1), (.int 1), (.ref r3)] 4 = mkF m 0 #[.val (.ref r0), .val (.ref r1), .val (.int 1), .val (.ref r3)] [] := by first | (simp [entryFrame, mkF, argsToLocals, Value.category]; done) | rfl
def Qm8 (Z : State) (r0 : Addr) (r1 : Addr) (r3 : Addr) (h0 : Heap) (n0 : Nat) (v : Option Value) (h : Heap) (L : List Loc) : Prop := v = none ∧ Fr n0 L ∧ (h = h0)
set_option maxRecDepth 65536 in
set_option maxHeartbeats 40000000 in
theorem rmm8 (l : Launch) (Z : State) (a0 : Array Value) (hw : ∀ d ∈ tables_1, d.before a0 Z = true) (ws : List Jvm.Cond) (r0 : Addr) (r1 : Addr) (r3 : Addr) (h0 : Heap) (n0 : Nat) (Z0 : n0 ≤ h0.size)  :
    MetFree l (⟨"com/example/buurt/buurt/model/Parameters", "require", "(Ljava/lang/String;Ljava/lang/Object;ZLjava/lang/String;)V"⟩ : MethodName) (head1 (Jvm.Cond.code (⟨"com/example/buurt/buurt/model/Parameters", "require", "(Ljava/lang/String;Ljava/lang/Object;ZLjava/lang/String;)V"⟩ : MethodName) prog_44_method_4_code 4 none :: ws) ({ frames := 0, cells := 0, slots := 0, locals := 0 } : Room)) (fun a U => a = #[(.ref r0), (.ref r1), (.int 1), (.ref r3)] ∧ Z.Warmed39 U.vm ∧ U.heap = h0) (fun _ _ _ _ _ => True) (fun _ U o U' => ∃ v L, o = .returned v ∧ Qm8 Z r0 r1 r3 h0 n0 v U'.heap L ∧ FrameEnd U o U' L ({ frames := 0, cells := 0, slots := 0, locals := 0 } : Room).cells ({ frames := 0, cells := 0, slots := 0, locals := 0 } : Room).slots) := by
  refine MetFree.of_bodySF (plainFor_of_name pn3) hisR ?_
  intro p e s m args below meth c s₁ Bd hml0 hP hK
  obtain ⟨rfl, hZ, hh⟩ := hP
  have hx := Bd.exec
  have hby := Bd.bytes
  have hml : c.maxLocals = 4 := hml0
  have hown : s.vm.findClass "com/example/buurt/buurt/model/Parameters" = some m.cls := findClass_of_methodNamed Bd.named
  have hnm := (name_of_methodNamed Bd.named Bd.method).1
  have X0 : Stand p l e ({ frames := 0, cells := 0, slots := 0, locals := 0 } : Room) s m #[(.ref r0), (.ref r1), (.int 1), (.ref r3)] below meth c s₁ [] 0 0 := Stand.of_body Bd
  have e0 : s₁.heap = h0 := by rw [← hh, Bd.state]; rfl
  have N0 := Fr.nil n0
  have pre0 : ∀ t, Steps p.tables e below (s₁.setTop (mkF m 0 #[.val (.ref r0), .val (.ref r1), .val (.int 1), .val (.ref r3)] [])) t → Steps p.tables e below (s₁.setTop (entryFrame m #[(.ref r0), (.ref r1), (.int 1), (.ref r3)] 4)) t := fun t k => castTop (efm8 m r0 r1 r3) k
  obtain ⟨fs, hr, hrun, hended, hW, hsame⟩ := X0.leave (v := none) (fun _ => rfl)
  refine ⟨_, _, pre0 _ ?_, hrun, hended, _, _, rfl, ?_, ⟨_, rfl⟩, hW, hsame.mono (by decide) (by decide)⟩
  · show own_S p e below s₁ m 0 #[oR r0, oR r1, oI 1, oR r3] [] _
    refine XS.iloadN X0.here hx rfl (hb hby d8_0) rfl ?_
    show own_S p e below s₁ m 1 #[oR r0, oR r1, oI 1, oR r3] [(.int 1)] _
    refine XS.ifYes X0.here hx rfl (pc0 := 1) (pc' := 23) rfl (hb hby d8_1) rfl ((if0 _ _).trans (feq (by decide : ¬ ((1 : Int32) = (0 : Int32)))).2) (by decide) (by decide) ?_
    show own_S p e below s₁ m 23 #[oR r0, oR r1, oI 1, oR r3] [] _
    exact X0.returnOut hx Bd.returns (hb hby d8_23) hr
  · show Qm8 Z r0 r1 r3 h0 n0 _ s₁.heap _
    rw [e0]
    exact ⟨rfl, N0, rfl⟩
theorem pd2 : parseMethodDescriptor "(D)Ljava/lang/Double;" = some ⟨[.double], some (.object "java/lang/Double")⟩ := by decide +kernel
theorem own_str {Z : State} {a0 : Array Value} (hw : ∀ d ∈ tables_1, d.before a0 Z = true) : ∀ a ∈ Bundle.stringAtoms, a.before a0 Z = true := by
  intro a ha
  simp only [Bundle.stringAtoms, List.mem_cons, List.not_mem_nil, or_false] at ha
  rcases ha with rfl | rfl | rfl | rfl | rfl | rfl | rfl
  · exact (own_w hw 17 rfl)
  · exact (own_w hw 18 rfl)
  · exact (own_w hw 19 rfl)
  · exact (own_w hw 20 rfl)
  · exact (own_w hw 21 rfl)
  · exact (own_w hw 22 rfl)
  · exact (own_w hw 23 rfl)
theorem pd3 : parseMethodDescriptor "(Ljava/lang/String;Ljava/lang/Object;ZLjava/lang/String;)V" = some ⟨[(.object "java/lang/String"), (.object "java/lang/Object"), .boolean, (.object "java/lang/String")], none⟩ := by decide +kernel
theorem d4_0 : decode prog_44_method_3_code 0 = .ok (.aload_n 0, 1) := by decide +kernel
theorem d4_1 : decode prog_44_method_3_code 1 = .ok (.dload_n 1, 1) := by decide +kernel
theorem d4_2 : decode prog_44_method_3_code 2 = .ok (.invokestatic 7, 3) := by decide +kernel
theorem d4_5 : decode prog_44_method_3_code 5 = .ok (.dload_n 1, 1) := by decide +kernel
theorem d4_6 : decode prog_44_method_3_code 6 = .ok (.dconst 0, 1) := by decide +kernel
theorem d4_7 : decode prog_44_method_3_code 7 = .ok (.dcmp .l, 1) := by decide +kernel
theorem d4_8 : decode prog_44_method_3_code 8 = .ok (.ifCond .le 15, 3) := by decide +kernel
theorem d4_11 : decode prog_44_method_3_code 11 = .ok (.dload_n 1, 1) := by decide +kernel
theorem d4_12 : decode prog_44_method_3_code 12 = .ok (.ldc2_w 21, 3) := by decide +kernel
theorem d4_15 : decode prog_44_method_3_code 15 = .ok (.dcmp .g, 1) := by decide +kernel
theorem d4_16 : decode prog_44_method_3_code 16 = .ok (.ifCond .gt 7, 3) := by decide +kernel
theorem d4_19 : decode prog_44_method_3_code 19 = .ok (.iconst 1, 1) := by decide +kernel
theorem d4_20 : decode prog_44_method_3_code 20 = .ok (.goto 4, 3) := by decide +kernel
theorem d4_24 : decode prog_44_method_3_code 24 = .ok (.ldc 23, 2) := by decide +kernel
theorem d4_26 : decode prog_44_method_3_code 26 = .ok (.invokestatic 15, 3) := by decide +kernel
theorem d4_29 : decode prog_44_method_3_code 29 = .ok (.return_, 1) := by decide +kernel
theorem efm4 (m : MethodId) (r0 : Addr) (d1 : UInt64) : entryFrame m #[(.ref r0), (.double d1)] 3 = mkF m 0 #[.val (.ref r0), .val (.double d1), .second] [] := by first | (simp [entryFrame, mkF, argsToLocals, Value.category]; done) | rfl
def Qm4 (Z : State) (r0 : Addr) (d1 : UInt64) (h0 : Heap) (n0 : Nat) (v : Option Value) (h : Heap) (L : List Loc) : Prop := v = none ∧ Fr n0 L ∧ (Keep h0 h [])
set_option maxRecDepth 65536 in
set_option maxHeartbeats 40000000 in
theorem rmm4 (l : Launch) (Z : State) (a0 : Array Value) (hw : ∀ d ∈ tables_1, d.before a0 Z = true) (ws : List Jvm.Cond) (r0 : Addr) (d1 : UInt64) (h0 : Heap) (n0 : Nat) (Z0 : n0 ≤ h0.size) (hc7 : cmpValue (FP.dcmp d1 (0 : UInt64)) .l = 1) (hc15 : ¬ ((0 : Int32) < (cmpValue (FP.dcmp d1 (9218868437227405311 : UInt64)) .g))) :
    MetFree l (⟨"com/example/buurt/buurt/model/Parameters", "requirePositive", "(Ljava/lang/String;D)V"⟩ : MethodName) (head1 (Jvm.Cond.code (⟨"com/example/buurt/buurt/model/Parameters", "requirePositive", "(Ljava/lang/String;D)V"⟩ : MethodName) prog_44_method_3_code 3 none :: ws) ({ frames := 4, cells := 3, slots := 77, locals := 53 } : Room)) (fun a U => a = #[(.ref r0), (.double d1)] ∧ Z.Warmed39 U.vm ∧ U.heap = h0) (fun _ _ _ _ _ => True) (fun _ U o U' => ∃ v L, o = .returned v ∧ Qm4 Z r0 d1 h0 n0 v U'.heap L ∧ ReturnedEndW U o U' L ({ frames := 4, cells := 3, slots := 77, locals := 53 } : Room).cells ({ frames := 4, cells := 3, slots := 77, locals := 53 } : Room).slots) := by
  refine MetFree.of_bodySF (plainFor_of_name pn3) hisR ?_
  intro p e s m args below meth c s₁ Bd hml0 hP hK
  obtain ⟨rfl, hZ, hh⟩ := hP
  have hx := Bd.exec
  have hby := Bd.bytes
  have hml : c.maxLocals = 3 := hml0
  have hown : s.vm.findClass "com/example/buurt/buurt/model/Parameters" = some m.cls := findClass_of_methodNamed Bd.named
  have hnm := (name_of_methodNamed Bd.named Bd.method).1
  have X0 : Stand p l e ({ frames := 4, cells := 3, slots := 77, locals := 53 } : Room) (s.setVm s.vm) m #[(.ref r0), (.double d1)] below meth c s₁ [] 0 0 := Stand.of_body Bd
  have e0 : s₁.heap = h0 := by rw [← hh, Bd.state]; rfl
  have N0 := Fr.nil n0
  have pre0 : ∀ t, Steps p.tables e below (s₁.setTop (mkF m 0 #[.val (.ref r0), .val (.double d1), .second] [])) t → Steps p.tables e below (s₁.setTop (entryFrame m #[(.ref r0), (.double d1)] 3)) t := fun t k => castTop (efm4 m r0 d1) k
  have hS0 := (State.WarmedH.refl s).since 0
  replace hZ : Z.Warmed39 (s.setVm s.vm).vm := hZ
  replace hown : (s.setVm s.vm).vm.findClass "com/example/buurt/buurt/model/Parameters" = some m.cls := hown
  obtain ⟨_, _, ⟨T101, L101, k101, n101⟩, -, X101, ⟨Lc101, hQ101, l101, y101, z101⟩, st101⟩ := Jvm.LawKit.callS X0 hx (y := (⟨"java/lang/Double", "valueOf", "(D)Ljava/lang/Double;"⟩ : MethodName)) hown (mvT hZ (own_w hw 28 rfl)) (mvT hZ (own_w hw 29 rfl)) (mvT hZ (own_w hw 30 rfl)) (mvT hZ (own_w hw 31 rfl)) (by decide) (backOf (W := 1) (rmm5 l Z a0 hw [] d1 h0 n0 Z0 ) hZ (own_w hw 31 rfl) (own_w hw 30 rfl) (by decide) (by decide)) (g := (mkF m 2 #[.val (.ref r0), .val (.double d1), .second] [(.double d1), (.ref r0)])) rfl (by rw [hml]; rfl) (argsL := [(.double d1)]) (rest := [(.ref r0)]) (lenOf pd2 rfl) rfl (by show 2 * 0 + _ ≤ _; exact Nat.le_of_eq rfl) (hb hby d4_2) (fun _ _ => ⟨rfl, e0, (by decide : 0 + 1 ≤ _), (by decide : 0 + 1 ≤ _)⟩)
  dsimp only [Pt.U, Pt.locs, Pt.cells, Pt.slots] at X101 l101 y101 z101 st101 hQ101
  subst l101 y101 z101
  obtain ⟨b_101, rfl, Nq101, P101_0, P101_1, P101_2, P101_3⟩ := hQ101
  have N101 := Fr.app N0 Nq101
  have g_b_101 : n0 ≤ b_101 := Nat.le_trans Z0 P101_1
  have sz_b_101 : h0.size ≤ b_101 := Nat.le_trans (Keep.refl h0 []).1 P101_1
  have ZZ103 : n0 ≤ T101.heap.size := Nat.le_trans Z0 P101_0.1
  have KK104 : Keep h0 T101.heap [] := Keep.trans (Keep.refl h0 []) P101_0 all0
  obtain ⟨b105, T105, h105, k105, X105, e105, E105, hS105, hk105, hZ105, how105, st105⟩ := ldcS (s := s) (vm0 := s.vm) X101 hx hZ hown (own_w hw 48 rfl) (own_str hw) rfl hS0 (Nat.zero_le _) (g := (mkF m 24 #[.val (.ref r0), .val (.double d1), .second] [(.int 1), (.ref b_101), (.ref r0)])) rfl (hb hby d4_24) (n := 72) (by decide) (by decide) (by decide) (by decide)
  have ZZ106 : n0 ≤ h105.size := Nat.le_trans ZZ103 E105.1
  have KK107 : Keep h0 h105 [] := KK104.ext E105
  obtain ⟨_, _, ⟨T108, L108, k108, n108⟩, -, X108, ⟨Lc108, hQ108, l108, y108, z108⟩, st108⟩ := Jvm.LawKit.callS X105 hx (y := (⟨"com/example/buurt/buurt/model/Parameters", "require", "(Ljava/lang/String;Ljava/lang/Object;ZLjava/lang/String;)V"⟩ : MethodName)) how105 (mvT hZ105 (own_w hw 49 rfl)) (mvT hZ105 (own_w hw 50 rfl)) (mvT hZ105 (own_w hw 26 rfl)) (mvT hZ105 (own_w hw 51 rfl)) (by decide) (backOf (W := 0) (rmm8 l Z a0 hw [] r0 b_101 b105 h105 n0 ZZ106 ) hZ105 (own_w hw 51 rfl) (own_w hw 26 rfl) (by decide) (by decide)) (g := (mkF m 26 #[.val (.ref r0), .val (.double d1), .second] [(.ref b105), (.int 1), (.ref b_101), (.ref r0)])) rfl (by rw [hml]; rfl) (argsL := [(.ref r0), (.ref b_101), (.int 1), (.ref b105)]) (rest := []) (lenOf pd3 rfl) rfl (by show 2 * 0 + _ ≤ _; exact Nat.le_of_eq rfl) (hb hby d4_26) (fun _ _ => ⟨rfl, e105, (by decide : 3 + 0 ≤ _), (by decide : 77 + 0 ≤ _)⟩)
  dsimp only [Pt.U, Pt.locs, Pt.cells, Pt.slots] at X108 l108 y108 z108 st108 hQ108
  subst l108 y108 z108
  obtain ⟨rfl, Nq108, P108_0⟩ := hQ108
  have N108 := Fr.app N101 Nq108
  obtain ⟨fs, hr, hrun, hended, hREW⟩ := X108.leaveW hS105 (by rw [P108_0]; exact hk105) (v := none) (fun _ => rfl)
  refine ⟨_, _, pre0 _ ?_, hrun, hended, _, _, rfl, ?_, hREW.1, hREW.2.1, hREW.2.2.1, hREW.2.2.2.mono (by decide) (by decide)⟩
  · show own_S p e below s₁ m 0 #[oR r0, oD d1, oV] [] _
    refine XS.aloadN X0.here hx rfl (hb hby d4_0) rfl rfl ?_
    show own_S p e below s₁ m 1 #[oR r0, oD d1, oV] [(.ref r0)] _
    refine XS.dloadN X0.here hx rfl (hb hby d4_1) rfl ?_
    show own_S p e below s₁ m 2 #[oR r0, oD d1, oV] [(.double d1), (.ref r0)] _
    refine st101 _ ?_
    show own_S p e below T101 m 5 #[oR r0, oD d1, oV] [(.ref b_101), (.ref r0)] _
    refine XS.dloadN X101.here hx rfl (hb hby d4_5) rfl ?_
    show own_S p e below T101 m 6 #[oR r0, oD d1, oV] [(.double d1), (.ref b_101), (.ref r0)] _
    refine XS.dconst0 X101.here hx rfl (v := 0) (hb hby d4_6) rfl ?_
    show own_S p e below T101 m 7 #[oR r0, oD d1, oV] [(.double 0), (.double d1), (.ref b_101), (.ref r0)] _
    refine XS.dcmpS X101.here hx rfl (v := (1 : Int32)) (hb hby d4_7) rfl hc7 ?_
    show own_S p e below T101 m 8 #[oR r0, oD d1, oV] [(.int 1), (.ref b_101), (.ref r0)] _
    refine XS.ifNo X101.here hx rfl (hb hby d4_8) rfl ((if0 _ _).trans (tlt (by decide : (0 : Int32) < (1 : Int32))).2.2.2) ?_
    show own_S p e below T101 m 11 #[oR r0, oD d1, oV] [(.ref b_101), (.ref r0)] _
    refine XS.dloadN X101.here hx rfl (hb hby d4_11) rfl ?_
    show own_S p e below T101 m 12 #[oR r0, oD d1, oV] [(.double d1), (.ref b_101), (.ref r0)] _
    refine X101.ldc2DoubleC hx hown (mvT hZ (own_w hw 47 rfl)) (g := (mkF m 12 #[.val (.ref r0), .val (.double d1), .second] [(.double d1), (.ref b_101), (.ref r0)])) rfl (hb hby d4_12) _ ?_
    show own_S p e below T101 m 15 #[oR r0, oD d1, oV] [(.double 9218868437227405311), (.double d1), (.ref b_101), (.ref r0)] _
    refine XS.dcmpS X101.here hx rfl (v := (cmpValue (FP.dcmp d1 (9218868437227405311 : UInt64)) .g)) (hb hby d4_15) rfl rfl ?_
    show own_S p e below T101 m 16 #[oR r0, oD d1, oV] [(.int (cmpValue (FP.dcmp d1 (9218868437227405311 : UInt64)) .g)), (.ref b_101), (.ref r0)] _
    refine XS.ifNo X101.here hx rfl (hb hby d4_16) rfl ((if0 _ _).trans (flt (hc15 : ¬ ((0 : Int32) < (cmpValue (FP.dcmp d1 (9218868437227405311 : UInt64)) .g)))).2.2.1) ?_
    show own_S p e below T101 m 19 #[oR r0, oD d1, oV] [(.ref b_101), (.ref r0)] _
    refine XS.iconst X101.here hx rfl (hb hby d4_19) ?_
    show own_S p e below T101 m 20 #[oR r0, oD d1, oV] [(.int 1), (.ref b_101), (.ref r0)] _
    refine XS.goto X101.here hx rfl (pc0 := 20) (pc' := 24) rfl (hb hby d4_20) (by decide) (by decide) ?_
    show own_S p e below T101 m 24 #[oR r0, oD d1, oV] [(.int 1), (.ref b_101), (.ref r0)] _
    refine st105 _ ?_
    show own_S p e below T105 m 26 #[oR r0, oD d1, oV] [(.ref b105), (.int 1), (.ref b_101), (.ref r0)] _
    refine st108 _ ?_
    show own_S p e below T108 m 29 #[oR r0, oD d1, oV] [] _
    exact X108.returnOut hx Bd.returns (hb hby d4_29) hr
  · show Qm4 Z r0 d1 h0 n0 _ T108.heap _
    rw [P108_0]
    exact ⟨rfl, N108, KK107⟩
theorem pd4 : parseMethodDescriptor "(Ljava/lang/String;D)V" = some ⟨[(.object "java/lang/String"), .double], none⟩ := by decide +kernel
theorem d1_0 : decode prog_28_method_1_code 0 = .ok (.aload_n 0, 1) := by decide +kernel
theorem d1_1 : decode prog_28_method_1_code 1 = .ok (.invokespecial 1, 3) := by decide +kernel
theorem d1_4 : decode prog_28_method_1_code 4 = .ok (.ldc 7, 2) := by decide +kernel
theorem d1_6 : decode prog_28_method_1_code 6 = .ok (.dload_n 1, 1) := by decide +kernel
theorem d1_7 : decode prog_28_method_1_code 7 = .ok (.invokestatic 9, 3) := by decide +kernel
theorem d1_10 : decode prog_28_method_1_code 10 = .ok (.aload_n 0, 1) := by decide +kernel
theorem d1_11 : decode prog_28_method_1_code 11 = .ok (.dload_n 1, 1) := by decide +kernel
theorem d1_12 : decode prog_28_method_1_code 12 = .ok (.putfield 15, 3) := by decide +kernel
theorem d1_15 : decode prog_28_method_1_code 15 = .ok (.return_, 1) := by decide +kernel
theorem pn4 : plainName "com/example/buurt/buurt/model/Dirichlet" = true := by first | (simp [plainName, overriddenIn]; done) | decide +kernel
theorem efm1 (m : MethodId) (r0 : Addr) (d1 : UInt64) : entryFrame m #[(.ref r0), (.double d1)] 3 = mkF m 0 #[.val (.ref r0), .val (.double d1), .second] [] := by first | (simp [entryFrame, mkF, argsToLocals, Value.category]; done) | rfl
def Qm1 (Z : State) (r0 : Addr) (d1 : UInt64) (u0 : Value) (h0 : Heap) (n0 : Nat) (v : Option Value) (h : Heap) (L : List Loc) : Prop := v = none ∧ Fr n0 L ∧ (Keep h0 h [r0]) ∧ (Exa Z h r0 "com/example/buurt/buurt/model/Dirichlet") ∧ (Fld Z h r0 "com/example/buurt/buurt/model/Dirichlet" "mu" "D" (.double d1))
set_option maxRecDepth 65536 in
set_option maxHeartbeats 40000000 in
theorem rmm1 (l : Launch) (Z : State) (a0 : Array Value) (hw : ∀ d ∈ tables_1, d.before a0 Z = true) (ws : List Jvm.Cond) (r0 : Addr) (d1 : UInt64) (u0 : Value) (h0 : Heap) (n0 : Nat) (Z0 : n0 ≤ h0.size) (F_mu_r0 : Fld Z h0 r0 "com/example/buurt/buurt/model/Dirichlet" "mu" "D" u0) (E_r0 : Exa Z h0 r0 "com/example/buurt/buurt/model/Dirichlet") (g_r0 : n0 ≤ r0) (hc7 : cmpValue (FP.dcmp d1 (0 : UInt64)) .l = 1) (hc15 : ¬ ((0 : Int32) < (cmpValue (FP.dcmp d1 (9218868437227405311 : UInt64)) .g))) :
    MetFree l (⟨"com/example/buurt/buurt/model/Dirichlet", "<init>", "(D)V"⟩ : MethodName) (head1 (Jvm.Cond.code (⟨"com/example/buurt/buurt/model/Dirichlet", "<init>", "(D)V"⟩ : MethodName) prog_28_method_1_code 3 none :: ws) ({ frames := 5, cells := 5, slots := 89, locals := 67 } : Room)) (fun a U => a = #[(.ref r0), (.double d1)] ∧ Z.Warmed39 U.vm ∧ U.heap = h0) (fun _ _ _ _ _ => True) (fun _ U o U' => ∃ v L, o = .returned v ∧ Qm1 Z r0 d1 u0 h0 n0 v U'.heap L ∧ ReturnedEndW U o U' L ({ frames := 5, cells := 5, slots := 89, locals := 67 } : Room).cells ({ frames := 5, cells := 5, slots := 89, locals := 67 } : Room).slots) := by
  refine MetFree.of_bodySF (plainFor_of_name pn4) hisR ?_
  intro p e s m args below meth c s₁ Bd hml0 hP hK
  obtain ⟨rfl, hZ, hh⟩ := hP
  have hx := Bd.exec
  have hby := Bd.bytes
  have hml : c.maxLocals = 3 := hml0
  have hown : s.vm.findClass "com/example/buurt/buurt/model/Dirichlet" = some m.cls := findClass_of_methodNamed Bd.named
  have hnm := (name_of_methodNamed Bd.named Bd.method).1
  have X0 : Stand p l e ({ frames := 5, cells := 5, slots := 89, locals := 67 } : Room) (s.setVm s.vm) m #[(.ref r0), (.double d1)] below meth c s₁ [] 0 0 := Stand.of_body Bd
  have e0 : s₁.heap = h0 := by rw [← hh, Bd.state]; rfl
  have N0 := Fr.nil n0
  have pre0 : ∀ t, Steps p.tables e below (s₁.setTop (mkF m 0 #[.val (.ref r0), .val (.double d1), .second] [])) t → Steps p.tables e below (s₁.setTop (entryFrame m #[(.ref r0), (.double d1)] 3)) t := fun t k => castTop (efm1 m r0 d1) k
  have hS0 := (State.WarmedH.refl s).since 0
  replace hZ : Z.Warmed39 (s.setVm s.vm).vm := hZ
  replace hown : (s.setVm s.vm).vm.findClass "com/example/buurt/buurt/model/Dirichlet" = some m.cls := hown
  obtain ⟨_, _, ⟨T101, L101, k101, n101⟩, -, X101, ⟨Lc101, hQ101, l101, y101, z101⟩, st101⟩ := X0.specialBack hx (y := (⟨"java/lang/Record", "<init>", "()V"⟩ : MethodName)) rfl hown (mvT hZ (own_w hw 8 rfl)) (mvT hZ (own_w hw 9 rfl)) (mvT hZ (own_w hw 12 rfl)) (by decide) (backOf (W := 0) (rmm2 l Z a0 hw [] r0 h0 n0 Z0 ) hZ (own_w hw 12 rfl) (own_w hw 11 rfl) (by decide) (by decide)) (g := (mkF m 1 #[.val (.ref r0), .val (.double d1), .second] [(.ref r0)])) rfl (by rw [hml]; rfl) (Steps.refl _) (a := r0) (argsL := []) (rest := []) (lenOf pd0 rfl) rfl (by show 2 * 0 + _ ≤ _; exact Nat.le_of_eq rfl) (hb hby d1_1) (fun _ _ => ⟨rfl, e0, (by decide : 0 + 0 ≤ _), (by decide : 0 + 0 ≤ _)⟩)
  dsimp only [Pt.U, Pt.locs, Pt.cells, Pt.slots] at X101 l101 y101 z101 st101 hQ101
  subst l101 y101 z101
  obtain ⟨rfl, Nq101, P101_0⟩ := hQ101
  have N101 := Fr.app N0 Nq101
  obtain ⟨b102, T102, h102, k102, X102, e102, E102, hS102, hk102, hZ102, how102, st102⟩ := ldcS (s := s) (vm0 := s.vm) X101 hx hZ hown (own_w hw 16 rfl) (own_str hw) P101_0 hS0 (Nat.zero_le _) (g := (mkF m 4 #[.val (.ref r0), .val (.double d1), .second] [])) rfl (hb hby d1_4) (n := 8) (by decide) (by decide) (by decide) (by decide)
  have ZZ103 : n0 ≤ h102.size := Nat.le_trans Z0 E102.1
  have KK104 : Keep h0 h102 [r0] := (Keep.refl h0 [r0]).ext E102
  obtain ⟨_, _, ⟨T105, L105, k105, n105⟩, -, Xr105, hSr105, hgr105, ⟨Lc105, hQ105, l105, y105, z105⟩, st105⟩ := Jvm.RoadKit.callSS X102 hx (y := (⟨"com/example/buurt/buurt/model/Parameters", "requirePositive", "(Ljava/lang/String;D)V"⟩ : MethodName)) how102 (mvT hZ102 (own_w hw 24 rfl)) (mvT hZ102 (own_w hw 25 rfl)) (mvT hZ102 (own_w hw 26 rfl)) (mvT hZ102 (own_w hw 27 rfl)) (by decide) (backOfS (W := 0) (rmm4 l Z a0 hw [] b102 d1 h102 n0 ZZ103 hc7 hc15) hZ102 (own_w hw 27 rfl) (own_w hw 26 rfl) (by decide) (by decide)) (g := (mkF m 7 #[.val (.ref r0), .val (.double d1), .second] [(.double d1), (.ref b102)])) rfl (by rw [hml]; rfl) (argsL := [(.ref b102), (.double d1)]) (rest := []) (lenOf pd4 rfl) rfl (by show 2 * 0 + _ ≤ _; exact Nat.le_of_eq rfl) (hb hby d1_7) (fun _ _ => ⟨rfl, e102, (by decide : 2 + 3 ≤ _), (by decide : 12 + 77 ≤ _)⟩)
  dsimp only [Pt.U, Pt.locs, Pt.cells, Pt.slots] at Xr105 l105 y105 z105 st105 hQ105 hSr105 hgr105
  subst l105 y105 z105
  obtain ⟨X105, hS105⟩ := Stand.againW Xr105 hS102 hSr105 (Nat.le_trans (by rw [e102]; exact hk102) hgr105)
  have hZ105 : Z.Warmed39 (s.setVm T105.vm).vm := State.Warmed39.trans (t := s.setVm T102.vm) hZ102 hSr105.1
  have how105 : (s.setVm T105.vm).vm.findClass "com/example/buurt/buurt/model/Dirichlet" = some m.cls := by rw [show (s.setVm T105.vm).vm = T105.vm from rfl, hSr105.1.alike.findClass]; exact how102
  obtain ⟨rfl, Nq105, P105_0⟩ := hQ105
  have N105 := Fr.app N101 Nq105
  have ZZ106 : n0 ≤ T105.heap.size := Nat.le_trans ZZ103 P105_0.1
  have KK107 : Keep h0 T105.heap [r0] := Keep.trans KK104 P105_0 all0
  have Fc108 := ((F_mu_r0.ext E102).keep P105_0 nin0)
  have Fc109 := ((E_r0.ext E102).keep P105_0)
  obtain ⟨T110, h110, X110, e110, W110, st110⟩ := putF X105 hx hZ105 how105 (host := "") (Or.inl (own_w hw 52 rfl)) Via.refl rfl Fc108 Fc109 (Or.inr ⟨(own_w hw 53 rfl), rfl, hnm⟩) (own_w hw 3 rfl) (ty := .double) (by decide) rfl rfl (g := (mkF m 12 #[.val (.ref r0), .val (.double d1), .second] [(.double d1), (.ref r0)])) rfl rfl (hb hby d1_12)
  have Fw110 := Fc108.same W110
  have N110 := Fr.snoc X110 N105 g_r0
  have SK111 := Nat.le_trans (Nat.le_refl _) (Nat.le_of_eq W110.size.symm)
  have ZZ112 : n0 ≤ h110.size := Nat.le_trans ZZ106 (Nat.le_of_eq W110.size.symm)
  have KK113 : Keep h0 h110 [r0] := KK107.wr W110 (Or.inl (List.mem_of_getElem? (i := 0) rfl))
  obtain ⟨fs, hr, hrun, hended, hREW⟩ := X110.leaveW hS105 (by rw [e110]; exact SK111) (v := none) (fun _ => rfl)
  refine ⟨_, _, pre0 _ ?_, hrun, hended, _, _, rfl, ?_, hREW.1, hREW.2.1, hREW.2.2.1, hREW.2.2.2.mono (by decide) (by decide)⟩
  · show own_S p e below s₁ m 0 #[oR r0, oD d1, oV] [] _
    refine XS.aloadN X0.here hx rfl (hb hby d1_0) rfl rfl ?_
    show own_S p e below s₁ m 1 #[oR r0, oD d1, oV] [(.ref r0)] _
    refine st101.trans ?_
    show own_S p e below T101 m 4 #[oR r0, oD d1, oV] [] _
    refine st102 _ ?_
    show own_S p e below T102 m 6 #[oR r0, oD d1, oV] [(.ref b102)] _
    refine XS.dloadN X102.here hx rfl (hb hby d1_6) rfl ?_
    show own_S p e below T102 m 7 #[oR r0, oD d1, oV] [(.double d1), (.ref b102)] _
    refine st105.trans ?_
    show own_S p e below T105 m 10 #[oR r0, oD d1, oV] [] _
    refine XS.aloadN X105.here hx rfl (hb hby d1_10) rfl rfl ?_
    show own_S p e below T105 m 11 #[oR r0, oD d1, oV] [(.ref r0)] _
    refine XS.dloadN X105.here hx rfl (hb hby d1_11) rfl ?_
    show own_S p e below T105 m 12 #[oR r0, oD d1, oV] [(.double d1), (.ref r0)] _
    refine st110 _ ?_
    show own_S p e below T110 m 15 #[oR r0, oD d1, oV] [] _
    exact X110.returnOut hx Bd.returns (hb hby d1_15) hr
  · show Qm1 Z r0 d1 u0 h0 n0 _ T110.heap _
    rw [e110]
    exact ⟨rfl, N110, KK113, (Fc109.wr W110), Fw110⟩
theorem d9_0 : decode prog_28_method_2_code 0 = .ok (.dload_n 1, 1) := by decide +kernel
theorem d9_1 : decode prog_28_method_2_code 1 = .ok (.aload_n 0, 1) := by decide +kernel
theorem d9_2 : decode prog_28_method_2_code 2 = .ok (.getfield 15, 3) := by decide +kernel
theorem d9_5 : decode prog_28_method_2_code 5 = .ok (.dload_n 3, 1) := by decide +kernel
theorem d9_6 : decode prog_28_method_2_code 6 = .ok (.dmul, 1) := by decide +kernel
theorem d9_7 : decode prog_28_method_2_code 7 = .ok (.dload 5, 2) := by decide +kernel
theorem d9_9 : decode prog_28_method_2_code 9 = .ok (.ddiv, 1) := by decide +kernel
theorem d9_10 : decode prog_28_method_2_code 10 = .ok (.dadd, 1) := by decide +kernel
theorem d9_11 : decode prog_28_method_2_code 11 = .ok (.dload 7, 2) := by decide +kernel
theorem d9_13 : decode prog_28_method_2_code 13 = .ok (.aload_n 0, 1) := by decide +kernel
theorem d9_14 : decode prog_28_method_2_code 14 = .ok (.getfield 15, 3) := by decide +kernel
theorem d9_17 : decode prog_28_method_2_code 17 = .ok (.dadd, 1) := by decide +kernel
theorem d9_18 : decode prog_28_method_2_code 18 = .ok (.ddiv, 1) := by decide +kernel
theorem d9_19 : decode prog_28_method_2_code 19 = .ok (.dreturn, 1) := by decide +kernel
theorem efm9 (m : MethodId) (r0 : Addr) (d1 : UInt64) (d2 : UInt64) (d3 : UInt64) (d4 : UInt64) : entryFrame m #[(.ref r0), (.double d1), (.double d2), (.double d3), (.double d4)] 9 = mkF m 0 #[.val (.ref r0), .val (.double d1), .second, .val (.double d2), .second, .val (.double d3), .second, .val (.double d4), .second] [] := by first | (simp [entryFrame, mkF, argsToLocals, Value.category]; done) | rfl
def Qm9 (Z : State) (r0 : Addr) (d1 : UInt64) (d2 : UInt64) (d3 : UInt64) (d4 : UInt64) (w : UInt64) (h0 : Heap) (n0 : Nat) (v : Option Value) (h : Heap) (L : List Loc) : Prop := v = some (.double (FP.ddiv (FP.dadd d1 (FP.ddiv (FP.dmul w d2) d3)) (FP.dadd d4 w))) ∧ Fr n0 L ∧ (h = h0)
set_option maxRecDepth 65536 in
set_option maxHeartbeats 40000000 in
theorem rmm9 (l : Launch) (Z : State) (a0 : Array Value) (hw : ∀ d ∈ tables_1, d.before a0 Z = true) (ws : List Jvm.Cond) (r0 : Addr) (d1 : UInt64) (d2 : UInt64) (d3 : UInt64) (d4 : UInt64) (w : UInt64) (h0 : Heap) (n0 : Nat) (Z0 : n0 ≤ h0.size) (F_mu_r0 : Fld Z h0 r0 "com/example/buurt/buurt/model/Dirichlet" "mu" "D" (.double w)) (hn6 : NoNaN64 (FP.dmul w d2)) (hn9 : NoNaN64 (FP.ddiv (FP.dmul w d2) d3)) (hn10 : NoNaN64 (FP.dadd d1 (FP.ddiv (FP.dmul w d2) d3))) (hn17 : NoNaN64 (FP.dadd d4 w)) (hn18 : NoNaN64 (FP.ddiv (FP.dadd d1 (FP.ddiv (FP.dmul w d2) d3)) (FP.dadd d4 w))) :
    MetFree l (⟨"com/example/buurt/buurt/model/Dirichlet", "probability", "(DDDD)D"⟩ : MethodName) (head1 (Jvm.Cond.code (⟨"com/example/buurt/buurt/model/Dirichlet", "probability", "(DDDD)D"⟩ : MethodName) prog_28_method_2_code 9 (some .double) :: ws) ({ frames := 0, cells := 0, slots := 0, locals := 0 } : Room)) (fun a U => a = #[(.ref r0), (.double d1), (.double d2), (.double d3), (.double d4)] ∧ Z.Warmed39 U.vm ∧ U.heap = h0) (fun _ _ _ _ _ => True) (fun _ U o U' => ∃ v L, o = .returned v ∧ Qm9 Z r0 d1 d2 d3 d4 w h0 n0 v U'.heap L ∧ FrameEnd U o U' L ({ frames := 0, cells := 0, slots := 0, locals := 0 } : Room).cells ({ frames := 0, cells := 0, slots := 0, locals := 0 } : Room).slots) := by
  refine MetFree.of_bodySF (plainFor_of_name pn4) hisR ?_
  intro p e s m args below meth c s₁ Bd hml0 hP hK
  obtain ⟨rfl, hZ, hh⟩ := hP
  have hx := Bd.exec
  have hby := Bd.bytes
  have hml : c.maxLocals = 9 := hml0
  have hown : s.vm.findClass "com/example/buurt/buurt/model/Dirichlet" = some m.cls := findClass_of_methodNamed Bd.named
  have hnm := (name_of_methodNamed Bd.named Bd.method).1
  have X0 : Stand p l e ({ frames := 0, cells := 0, slots := 0, locals := 0 } : Room) s m #[(.ref r0), (.double d1), (.double d2), (.double d3), (.double d4)] below meth c s₁ [] 0 0 := Stand.of_body Bd
  have e0 : s₁.heap = h0 := by rw [← hh, Bd.state]; rfl
  have N0 := Fr.nil n0
  have pre0 : ∀ t, Steps p.tables e below (s₁.setTop (mkF m 0 #[.val (.ref r0), .val (.double d1), .second, .val (.double d2), .second, .val (.double d3), .second, .val (.double d4), .second] [])) t → Steps p.tables e below (s₁.setTop (entryFrame m #[(.ref r0), (.double d1), (.double d2), (.double d3), (.double d4)] 9)) t := fun t k => castTop (efm9 m r0 d1 d2 d3 d4) k
  obtain ⟨T101, X101, e101, st101⟩ := getF X0 hx hZ hown (host := "") (Or.inl (own_w hw 52 rfl)) Via.refl e0 F_mu_r0 (g := (mkF m 2 #[.val (.ref r0), .val (.double d1), .second, .val (.double d2), .second, .val (.double d3), .second, .val (.double d4), .second] [(.ref r0), (.double d1)])) rfl rfl (hb hby d9_2)
  obtain ⟨T102, X102, e102, st102⟩ := getF X101 hx hZ hown (host := "") (Or.inl (own_w hw 52 rfl)) Via.refl e101 F_mu_r0 (g := (mkF m 14 #[.val (.ref r0), .val (.double d1), .second, .val (.double d2), .second, .val (.double d3), .second, .val (.double d4), .second] [(.ref r0), (.double d4), (.double (FP.dadd d1 (FP.ddiv (FP.dmul w d2) d3)))])) rfl rfl (hb hby d9_14)
  obtain ⟨fs, hr, hrun, hended, hW, hsame⟩ := X102.leave (v := some (.double (FP.ddiv (FP.dadd d1 (FP.ddiv (FP.dmul w d2) d3)) (FP.dadd d4 w)))) (fun h => by rw [Bd.returns] at h; cases h)
  refine ⟨_, _, pre0 _ ?_, hrun, hended, _, _, rfl, ?_, ⟨_, rfl⟩, hW, hsame.mono (by decide) (by decide)⟩
  · show own_S p e below s₁ m 0 #[oR r0, oD d1, oV, oD d2, oV, oD d3, oV, oD d4, oV] [] _
    refine XS.dloadN X0.here hx rfl (hb hby d9_0) rfl ?_
    show own_S p e below s₁ m 1 #[oR r0, oD d1, oV, oD d2, oV, oD d3, oV, oD d4, oV] [(.double d1)] _
    refine XS.aloadN X0.here hx rfl (hb hby d9_1) rfl rfl ?_
    show own_S p e below s₁ m 2 #[oR r0, oD d1, oV, oD d2, oV, oD d3, oV, oD d4, oV] [(.ref r0), (.double d1)] _
    refine st101 _ ?_
    show own_S p e below T101 m 5 #[oR r0, oD d1, oV, oD d2, oV, oD d3, oV, oD d4, oV] [(.double w), (.double d1)] _
    refine XS.dloadN X101.here hx rfl (hb hby d9_5) rfl ?_
    show own_S p e below T101 m 6 #[oR r0, oD d1, oV, oD d2, oV, oD d3, oV, oD d4, oV] [(.double d2), (.double w), (.double d1)] _
    refine XS.dmulS X101.here hx rfl (v := (FP.dmul w d2)) (hb hby d9_6) rfl hn6 rfl ?_
    show own_S p e below T101 m 7 #[oR r0, oD d1, oV, oD d2, oV, oD d3, oV, oD d4, oV] [(.double (FP.dmul w d2)), (.double d1)] _
    refine XS.dload X101.here hx rfl (hb hby d9_7) rfl ?_
    show own_S p e below T101 m 9 #[oR r0, oD d1, oV, oD d2, oV, oD d3, oV, oD d4, oV] [(.double d3), (.double (FP.dmul w d2)), (.double d1)] _
    refine XS.ddivS X101.here hx rfl (v := (FP.ddiv (FP.dmul w d2) d3)) (hb hby d9_9) rfl hn9 rfl ?_
    show own_S p e below T101 m 10 #[oR r0, oD d1, oV, oD d2, oV, oD d3, oV, oD d4, oV] [(.double (FP.ddiv (FP.dmul w d2) d3)), (.double d1)] _
    refine XS.daddS X101.here hx rfl (v := (FP.dadd d1 (FP.ddiv (FP.dmul w d2) d3))) (hb hby d9_10) rfl hn10 rfl ?_
    show own_S p e below T101 m 11 #[oR r0, oD d1, oV, oD d2, oV, oD d3, oV, oD d4, oV] [(.double (FP.dadd d1 (FP.ddiv (FP.dmul w d2) d3)))] _
    refine XS.dload X101.here hx rfl (hb hby d9_11) rfl ?_
    show own_S p e below T101 m 13 #[oR r0, oD d1, oV, oD d2, oV, oD d3, oV, oD d4, oV] [(.double d4), (.double (FP.dadd d1 (FP.ddiv (FP.dmul w d2) d3)))] _
    refine XS.aloadN X101.here hx rfl (hb hby d9_13) rfl rfl ?_
    show own_S p e below T101 m 14 #[oR r0, oD d1, oV, oD d2, oV, oD d3, oV, oD d4, oV] [(.ref r0), (.double d4), (.double (FP.dadd d1 (FP.ddiv (FP.dmul w d2) d3)))] _
    refine st102 _ ?_
    show own_S p e below T102 m 17 #[oR r0, oD d1, oV, oD d2, oV, oD d3, oV, oD d4, oV] [(.double w), (.double d4), (.double (FP.dadd d1 (FP.ddiv (FP.dmul w d2) d3)))] _
    refine XS.daddS X102.here hx rfl (v := (FP.dadd d4 w)) (hb hby d9_17) rfl hn17 rfl ?_
    show own_S p e below T102 m 18 #[oR r0, oD d1, oV, oD d2, oV, oD d3, oV, oD d4, oV] [(.double (FP.dadd d4 w)), (.double (FP.dadd d1 (FP.ddiv (FP.dmul w d2) d3)))] _
    refine XS.ddivS X102.here hx rfl (v := (FP.ddiv (FP.dadd d1 (FP.ddiv (FP.dmul w d2) d3)) (FP.dadd d4 w))) (hb hby d9_18) rfl hn18 rfl ?_
    show own_S p e below T102 m 19 #[oR r0, oD d1, oV, oD d2, oV, oD d3, oV, oD d4, oV] [(.double (FP.ddiv (FP.dadd d1 (FP.ddiv (FP.dmul w d2) d3)) (FP.dadd d4 w)))] _
    exact retOut X102 hx Bd.returns rfl (Or.inr (Or.inr (Or.inl ⟨rfl, rfl, _, rfl⟩))) (hb hby d9_19) hr
  · show Qm9 Z r0 d1 d2 d3 d4 w h0 n0 _ T102.heap _
    rw [e102]
    exact ⟨rfl, N0, rfl⟩
theorem pd5 : parseMethodDescriptor "(DDDD)D" = some ⟨[.double, .double, .double, .double], some .double⟩ := by decide +kernel
theorem pn5 : plainName "com/example/buurt/buurt/model/DirichletProbabilityPinLaw" = true := by first | (simp [plainName, overriddenIn]; done) | decide +kernel
theorem efm0 (m : MethodId) (p0 : Int32) (p1 : Int32) (p2 : Int32) (p3 : Int32) (p4 : Int32) : entryFrame m #[(.int p0), (.int p1), (.int p2), (.int p3), (.int p4)] maxLocals = mkF m 0 #[.val (.int p0), .val (.int p1), .val (.int p2), .val (.int p3), .val (.int p4), .unset, .unset, .unset, .unset, .unset, .unset, .unset, .unset, .unset, .unset, .unset, .unset, .unset, .unset, .unset] [] := by first | (simp [entryFrame, mkF, argsToLocals, Value.category, maxLocals]; done) | rfl
def Qm0 (Z : State) (p0 : Int32) (p1 : Int32) (p2 : Int32) (p3 : Int32) (p4 : Int32) (h0 : Heap) (n0 : Nat) (v : Option Value) (h : Heap) (L : List Loc) : Prop := v = some (.int 1) ∧ Fr n0 L
set_option maxRecDepth 65536 in
set_option maxHeartbeats 40000000 in
theorem rmm0 (l : Launch) (Z : State) (a0 : Array Value) (hw : ∀ d ∈ tables_1, d.before a0 Z = true) (ws : List Jvm.Cond) (p0 : Int32) (p1 : Int32) (p2 : Int32) (p3 : Int32) (p4 : Int32) (h0 : Heap) (n0 : Nat) (Z0 : n0 ≤ h0.size)  :
    MetFree l x (head1 (Jvm.Cond.code x code maxLocals ret :: ws) room_1) (fun a U => a = #[(.int p0), (.int p1), (.int p2), (.int p3), (.int p4)] ∧ Z.Warmed39 U.vm ∧ U.heap = h0) (fun _ _ _ _ _ => True) (fun _ U o U' => ∃ v L, o = .returned v ∧ Qm0 Z p0 p1 p2 p3 p4 h0 n0 v U'.heap L ∧ ReturnedEndW U o U' L room_1.cells room_1.slots) := by
  refine MetFree.of_bodySF (plainFor_of_name pn5) hisR ?_
  intro p e s m args below meth c s₁ Bd hml0 hP hK
  obtain ⟨rfl, hZ, hh⟩ := hP
  have hx := Bd.exec
  have hby := Bd.bytes
  have hml : c.maxLocals = 20 := hml0
  have hown : s.vm.findClass "com/example/buurt/buurt/model/DirichletProbabilityPinLaw" = some m.cls := findClass_of_methodNamed Bd.named
  have hnm := (name_of_methodNamed Bd.named Bd.method).1
  have X0 : Stand p l e room_1 (s.setVm s.vm) m #[(.int p0), (.int p1), (.int p2), (.int p3), (.int p4)] below meth c s₁ [] 0 0 := Stand.of_body Bd
  have e0 : s₁.heap = h0 := by rw [← hh, Bd.state]; rfl
  have N0 := Fr.nil n0
  have pre0 : ∀ t, Steps p.tables e below (s₁.setTop (mkF m 0 #[.val (.int p0), .val (.int p1), .val (.int p2), .val (.int p3), .val (.int p4), .unset, .unset, .unset, .unset, .unset, .unset, .unset, .unset, .unset, .unset, .unset, .unset, .unset, .unset, .unset] [])) t → Steps p.tables e below (s₁.setTop (entryFrame m #[(.int p0), (.int p1), (.int p2), (.int p3), (.int p4)] maxLocals)) t := fun t k => castTop (efm0 m p0 p1 p2 p3 p4) k
  have hS0 := (State.WarmedH.refl s).since 0
  replace hZ : Z.Warmed39 (s.setVm s.vm).vm := hZ
  replace hown : (s.setVm s.vm).vm.findClass "com/example/buurt/buurt/model/DirichletProbabilityPinLaw" = some m.cls := hown
  obtain ⟨mv, hmv⟩ : ∃ z, z = ((p0 &&& (1048575 : Int32)).toInt64) + (1 : Int64) := ⟨_, rfl⟩
  obtain ⟨dv, hdv⟩ : ∃ z, z = ((p1 &&& (1048575 : Int32)).toInt64) := ⟨_, rfl⟩
  obtain ⟨kv, hkv⟩ : ∃ z, z = ((p2 &&& (1048575 : Int32)).toInt64) := ⟨_, rfl⟩
  obtain ⟨kp, hkp⟩ : ∃ z, z = ((kv + (1 : Int64)).toInt32) := ⟨_, rfl⟩
  obtain ⟨cv, hcv⟩ : ∃ z, z = (((p3 &&& (2147483647 : Int32)) % kp).toInt64) := ⟨_, rfl⟩
  obtain ⟨tv, htv⟩ : ∃ z, z = ((p4 &&& (1023 : Int32)).toInt64) + (1 : Int64) := ⟨_, rfl⟩
  obtain ⟨fv, hfv⟩ : ∃ z, z = (kv * (dv + mv)) - (mv * cv) := ⟨_, rfl⟩
  have b0 := own_maskI (x := p0) (m := 1048575) (k := 20) (by decide) (by decide)
  have b1 := own_maskI (x := p1) (m := 1048575) (k := 20) (by decide) (by decide)
  have b2 := own_maskI (x := p2) (m := 1048575) (k := 20) (by decide) (by decide)
  have b3 := own_maskI (x := p3) (m := 2147483647) (k := 31) (by decide) (by decide)
  have b4 := own_maskI (x := p4) (m := 1023) (k := 10) (by decide) (by decide)
  have em : mv.toInt = (p0 &&& (1048575 : Int32)).toInt + 1 := by rw [hmv, own_ladd (A := 1048576) (B := 1) (by rw [c_i2l]; omega) (by decide) (by decide), c_i2l]; rfl
  have ed : dv.toInt = (p1 &&& (1048575 : Int32)).toInt := by rw [hdv, c_i2l]
  have ek : kv.toInt = (p2 &&& (1048575 : Int32)).toInt := by rw [hkv, c_i2l]
  have et : tv.toInt = (p4 &&& (1023 : Int32)).toInt + 1 := by rw [htv, own_ladd (A := 1048576) (B := 1) (by rw [c_i2l]; omega) (by decide) (by decide), c_i2l]; rfl
  have ekp : kp.toInt = kv.toInt + 1 := by
    have q := c_l2i (kv + (1 : Int64))
    rw [← hkp, own_ladd (A := 1048576) (B := 1) (by omega) (by decide) (by decide), show (1 : Int64).toInt = 1 by decide] at q
    have := rng32 kp
    omega
  have rr := own_irem (x := p3 &&& (2147483647 : Int32)) (m := kp) rfl rfl (by omega)
  have ec : cv.toInt = ((p3 &&& (2147483647 : Int32)) % kp).toInt := by rw [hcv, c_i2l]
  have hkz : kp ≠ 0 := fun q => by rw [q] at ekp; rw [show (0 : Int32).toInt = 0 by decide] at ekp; omega
  obtain ⟨Dm, D1, D2, D3, D4, D5, Dk⟩ := own_dir (m := mv) (dl := dv) (k := kv) (cf := cv) (t := tv) (tf := fv) (by omega) (by omega) (by omega) (by omega) (by omega) (by omega) (by rw [ec]; exact rr.2.2 b3.1) (by rw [ec]; omega) (by omega) (by omega) hfv
  have hg7 : cmpValue (FP.dcmp (FP.l2d mv) (0 : UInt64)) .l = 1 := by rw [own_icmp Dm own_D0, if_neg (by omega), if_neg (by omega)]
  have hg15 : ¬ ((0 : Int32) < (cmpValue (FP.dcmp (FP.l2d mv) (9218868437227405311 : UInt64)) .g)) := own_lemax (l2d_fin mv) (abs_w (fun q => by have := Int64.lt_iff_toInt_lt.mp q; rw [show (0 : Int64).toInt = 0 from rfl] at this; omega))
  obtain ⟨T101, h101, X101, e101, E101, A101, D101, -, st101⟩ := newO X0 hx hZ hown (own_w hw 2 rfl) (own_w hw 3 rfl) (own_w hw 4 rfl) e0 (g := (mkF m 63 #[.val (.int p0), .val (.int p1), .val (.int p2), .val (.int p3), .val (.int p4), .val (.long mv), .second, .val (.long dv), .second, .val (.long kv), .second, .val (.long cv), .second, .val (.long tv), .second, .val (.long fv), .second, .unset, .unset, .unset] [])) rfl (hb hby at_63) (by decide) (by decide)
  obtain ⟨b101, g101⟩ : ∃ z, z = h0.size := ⟨_, rfl⟩
  rw [← g101] at A101 D101 st101
  have g_b101 : n0 ≤ b101 := Nat.le_trans Z0 (Nat.le_of_eq g101.symm)
  have ZZ103 : n0 ≤ h101.size := Nat.le_trans Z0 E101.1
  have F_mu_b101 : Fld Z h101 b101 "com/example/buurt/buurt/model/Dirichlet" "mu" "D" (.double 0) := D101 (Or.inr (own_w hw 53 rfl)) (ty := .double) (by decide)
  obtain ⟨_, _, ⟨T104, L104, k104, n104⟩, -, Xr104, hSr104, hgr104, ⟨Lc104, hQ104, l104, y104, z104⟩, st104⟩ := X101.specialBackS hx (y := (⟨"com/example/buurt/buurt/model/Dirichlet", "<init>", "(D)V"⟩ : MethodName)) rfl hown (mvT hZ (own_w hw 5 rfl)) (mvT hZ (own_w hw 6 rfl)) (mvT hZ (own_w hw 7 rfl)) (by decide) (backOfS (W := 1) (rmm1 l Z a0 hw [] b101 (FP.l2d mv) (.double 0) h101 n0 ZZ103 F_mu_b101 A101 g_b101 hg7 hg15) hZ (own_w hw 7 rfl) (own_w hw 4 rfl) (by decide) (by decide)) (g := (mkF m 70 #[.val (.int p0), .val (.int p1), .val (.int p2), .val (.int p3), .val (.int p4), .val (.long mv), .second, .val (.long dv), .second, .val (.long kv), .second, .val (.long cv), .second, .val (.long tv), .second, .val (.long fv), .second, .unset, .unset, .unset] [(.double (FP.l2d mv)), (.ref b101), (.ref b101)])) rfl (by rw [hml]; rfl) (Steps.refl _) (a := b101) (argsL := [(.double (FP.l2d mv))]) (rest := [(.ref b101)]) (lenOf pd1 rfl) rfl (by show 2 * 0 + _ ≤ _; exact Nat.le_of_eq rfl) (hb hby at_70) (fun _ _ => ⟨rfl, e101, (by decide : 1 + 5 ≤ _), (by decide : 1 + 89 ≤ _)⟩)
  dsimp only [Pt.U, Pt.locs, Pt.cells, Pt.slots] at Xr104 l104 y104 z104 st104 hQ104 hSr104 hgr104
  subst l104 y104 z104
  obtain ⟨X104, hS104⟩ := Stand.againW Xr104 hS0 hSr104 (Nat.le_trans (Nat.zero_le _) hgr104)
  have hZ104 : Z.Warmed39 (s.setVm T104.vm).vm := State.Warmed39.trans (t := s.setVm s.vm) hZ hSr104.1
  have how104 : (s.setVm T104.vm).vm.findClass "com/example/buurt/buurt/model/DirichletProbabilityPinLaw" = some m.cls := by rw [show (s.setVm T104.vm).vm = T104.vm from rfl, hSr104.1.alike.findClass]; exact hown
  obtain ⟨rfl, Nq104, P104_0, P104_1, P104_2⟩ := hQ104
  have N104 := Fr.app N0 Nq104
  have ZZ105 : n0 ≤ T104.heap.size := Nat.le_trans ZZ103 P104_0.1
  obtain ⟨cq106, kq106, q106a, q106b, q106c⟩ := isOf hZ104 rfl P104_1
  obtain ⟨_, _, ⟨T106, L106, k106, n106⟩, -, X106, ⟨Lc106, hQ106, l106, y106, z106⟩, st106⟩ := X104.virtualBack hx (y := (⟨"com/example/buurt/buurt/model/Dirichlet", "probability", "(DDDD)D"⟩ : MethodName)) (z := (⟨"com/example/buurt/buurt/model/Dirichlet", "probability", "(DDDD)D"⟩ : MethodName)) how104 (mvT hZ104 (own_w hw 54 rfl)) (mvT hZ104 (own_w hw 55 rfl)) (notFace_of_selects (args := #[]) (mvT hZ104 (own_w hw 57 rfl))) (mvT hZ104 (own_w hw 57 rfl)) (mvT hZ104 (own_w hw 56 rfl)) (by decide) (backOf (W := 0) (rmm9 l Z a0 hw [] b101 (FP.l2d fv) (FP.l2d (cv * tv)) (FP.l2d tv) (FP.l2d dv) (FP.l2d mv) T104.heap n0 ZZ105 P104_2 (own_dint_nn D1) (own_dint_nn D2) (own_dint_nn D3) (own_dint_nn D4) (own_dint_nn D5)) hZ104 (own_w hw 58 rfl) (own_w hw 4 rfl) (by decide) (by decide)) q106a q106c (g := (mkF m 92 #[.val (.int p0), .val (.int p1), .val (.int p2), .val (.int p3), .val (.int p4), .val (.long mv), .second, .val (.long dv), .second, .val (.long kv), .second, .val (.long cv), .second, .val (.long tv), .second, .val (.long fv), .second, .val (.ref b101), .unset, .unset] [(.double (FP.l2d dv)), (.double (FP.l2d tv)), (.double (FP.l2d (cv * tv))), (.double (FP.l2d fv)), (.ref b101)])) rfl (by rw [hml]; rfl) (Steps.refl _) (argsL := [(.double (FP.l2d fv)), (.double (FP.l2d (cv * tv))), (.double (FP.l2d tv)), (.double (FP.l2d dv))]) (rest := []) (lenOf pd5 rfl) rfl (by show 2 * 0 + _ ≤ _; exact Nat.le_of_eq rfl) (hb hby at_92) (fun _ _ => ⟨rfl, rfl, (by decide : 6 + 0 ≤ _), (by decide : 90 + 0 ≤ _)⟩)
  dsimp only [Pt.U, Pt.locs, Pt.cells, Pt.slots] at X106 l106 y106 z106 st106 hQ106
  subst l106 y106 z106
  obtain ⟨rfl, Nq106, P106_0⟩ := hQ106
  have N106 := Fr.app N104 Nq106
  obtain ⟨fs, hr, hrun, hended, hREW⟩ := X106.leaveW hS104 (by rw [P106_0]; exact (Nat.le_refl _)) (v := some (.int 1)) (fun h => by rw [Bd.returns] at h; cases h)
  refine ⟨_, _, pre0 _ ?_, hrun, hended, _, _, rfl, ?_, hREW.1, hREW.2.1, hREW.2.2.1, hREW.2.2.2.mono (by decide) (by decide)⟩
  · show own_S p e below s₁ m 0 #[oI p0, oI p1, oI p2, oI p3, oI p4, oU, oU, oU, oU, oU, oU, oU, oU, oU, oU, oU, oU, oU, oU, oU] [] _
    refine XS.iloadN X0.here hx rfl (hb hby at_0) rfl ?_
    show own_S p e below s₁ m 1 #[oI p0, oI p1, oI p2, oI p3, oI p4, oU, oU, oU, oU, oU, oU, oU, oU, oU, oU, oU, oU, oU, oU, oU] [(.int p0)] _
    refine X0.ldcInt hx hown (mvT hZ (own_w hw 0 rfl)) (g := (mkF m 1 #[.val (.int p0), .val (.int p1), .val (.int p2), .val (.int p3), .val (.int p4), .unset, .unset, .unset, .unset, .unset, .unset, .unset, .unset, .unset, .unset, .unset, .unset, .unset, .unset, .unset] [(.int p0)])) rfl (hb hby at_1) _ ?_
    show own_S p e below s₁ m 3 #[oI p0, oI p1, oI p2, oI p3, oI p4, oU, oU, oU, oU, oU, oU, oU, oU, oU, oU, oU, oU, oU, oU, oU] [(.int 1048575), (.int p0)] _
    refine XS.iand X0.here hx rfl (hb hby at_3) rfl ?_
    show own_S p e below s₁ m 4 #[oI p0, oI p1, oI p2, oI p3, oI p4, oU, oU, oU, oU, oU, oU, oU, oU, oU, oU, oU, oU, oU, oU, oU] [(.int (p0 &&& (1048575 : Int32)))] _
    refine XS.i2l X0.here hx rfl (hb hby at_4) rfl ?_
    show own_S p e below s₁ m 5 #[oI p0, oI p1, oI p2, oI p3, oI p4, oU, oU, oU, oU, oU, oU, oU, oU, oU, oU, oU, oU, oU, oU, oU] [(.long ((p0 &&& (1048575 : Int32)).toInt64))] _
    refine XS.lconst X0.here hx rfl (hb hby at_5) ?_
    show own_S p e below s₁ m 6 #[oI p0, oI p1, oI p2, oI p3, oI p4, oU, oU, oU, oU, oU, oU, oU, oU, oU, oU, oU, oU, oU, oU, oU] [(.long (1 : Int64)), (.long ((p0 &&& (1048575 : Int32)).toInt64))] _
    refine XS.ladd X0.here hx rfl (hb hby at_6) rfl ?_
    show own_S p e below s₁ m 7 #[oI p0, oI p1, oI p2, oI p3, oI p4, oU, oU, oU, oU, oU, oU, oU, oU, oU, oU, oU, oU, oU, oU, oU] [(.long (((p0 &&& (1048575 : Int32)).toInt64) + (1 : Int64)))] _
    refine reJ (hmv.symm : (((p0 &&& (1048575 : Int32)).toInt64) + (1 : Int64)) = mv) ?_
    show own_S p e below s₁ m 7 #[oI p0, oI p1, oI p2, oI p3, oI p4, oU, oU, oU, oU, oU, oU, oU, oU, oU, oU, oU, oU, oU, oU, oU] [(.long mv)] _
    refine XS.lstore X0.here hx rfl (hb hby at_7) rfl (l' := #[.val (.int p0), .val (.int p1), .val (.int p2), .val (.int p3), .val (.int p4), .val (.long mv), .second, .unset, .unset, .unset, .unset, .unset, .unset, .unset, .unset, .unset, .unset, .unset, .unset, .unset]) rfl ?_
    show own_S p e below s₁ m 9 #[oI p0, oI p1, oI p2, oI p3, oI p4, oJ mv, oV, oU, oU, oU, oU, oU, oU, oU, oU, oU, oU, oU, oU, oU] [] _
    refine XS.iloadN X0.here hx rfl (hb hby at_9) rfl ?_
    show own_S p e below s₁ m 10 #[oI p0, oI p1, oI p2, oI p3, oI p4, oJ mv, oV, oU, oU, oU, oU, oU, oU, oU, oU, oU, oU, oU, oU, oU] [(.int p1)] _
    refine X0.ldcInt hx hown (mvT hZ (own_w hw 0 rfl)) (g := (mkF m 10 #[.val (.int p0), .val (.int p1), .val (.int p2), .val (.int p3), .val (.int p4), .val (.long mv), .second, .unset, .unset, .unset, .unset, .unset, .unset, .unset, .unset, .unset, .unset, .unset, .unset, .unset] [(.int p1)])) rfl (hb hby at_10) _ ?_
    show own_S p e below s₁ m 12 #[oI p0, oI p1, oI p2, oI p3, oI p4, oJ mv, oV, oU, oU, oU, oU, oU, oU, oU, oU, oU, oU, oU, oU, oU] [(.int 1048575), (.int p1)] _
    refine XS.iand X0.here hx rfl (hb hby at_12) rfl ?_
    show own_S p e below s₁ m 13 #[oI p0, oI p1, oI p2, oI p3, oI p4, oJ mv, oV, oU, oU, oU, oU, oU, oU, oU, oU, oU, oU, oU, oU, oU] [(.int (p1 &&& (1048575 : Int32)))] _
    refine XS.i2l X0.here hx rfl (hb hby at_13) rfl ?_
    show own_S p e below s₁ m 14 #[oI p0, oI p1, oI p2, oI p3, oI p4, oJ mv, oV, oU, oU, oU, oU, oU, oU, oU, oU, oU, oU, oU, oU, oU] [(.long ((p1 &&& (1048575 : Int32)).toInt64))] _
    refine reJ (hdv.symm : ((p1 &&& (1048575 : Int32)).toInt64) = dv) ?_
    show own_S p e below s₁ m 14 #[oI p0, oI p1, oI p2, oI p3, oI p4, oJ mv, oV, oU, oU, oU, oU, oU, oU, oU, oU, oU, oU, oU, oU, oU] [(.long dv)] _
    refine XS.lstore X0.here hx rfl (hb hby at_14) rfl (l' := #[.val (.int p0), .val (.int p1), .val (.int p2), .val (.int p3), .val (.int p4), .val (.long mv), .second, .val (.long dv), .second, .unset, .unset, .unset, .unset, .unset, .unset, .unset, .unset, .unset, .unset, .unset]) rfl ?_
    show own_S p e below s₁ m 16 #[oI p0, oI p1, oI p2, oI p3, oI p4, oJ mv, oV, oJ dv, oV, oU, oU, oU, oU, oU, oU, oU, oU, oU, oU, oU] [] _
    refine XS.iloadN X0.here hx rfl (hb hby at_16) rfl ?_
    show own_S p e below s₁ m 17 #[oI p0, oI p1, oI p2, oI p3, oI p4, oJ mv, oV, oJ dv, oV, oU, oU, oU, oU, oU, oU, oU, oU, oU, oU, oU] [(.int p2)] _
    refine X0.ldcInt hx hown (mvT hZ (own_w hw 0 rfl)) (g := (mkF m 17 #[.val (.int p0), .val (.int p1), .val (.int p2), .val (.int p3), .val (.int p4), .val (.long mv), .second, .val (.long dv), .second, .unset, .unset, .unset, .unset, .unset, .unset, .unset, .unset, .unset, .unset, .unset] [(.int p2)])) rfl (hb hby at_17) _ ?_
    show own_S p e below s₁ m 19 #[oI p0, oI p1, oI p2, oI p3, oI p4, oJ mv, oV, oJ dv, oV, oU, oU, oU, oU, oU, oU, oU, oU, oU, oU, oU] [(.int 1048575), (.int p2)] _
    refine XS.iand X0.here hx rfl (hb hby at_19) rfl ?_
    show own_S p e below s₁ m 20 #[oI p0, oI p1, oI p2, oI p3, oI p4, oJ mv, oV, oJ dv, oV, oU, oU, oU, oU, oU, oU, oU, oU, oU, oU, oU] [(.int (p2 &&& (1048575 : Int32)))] _
    refine XS.i2l X0.here hx rfl (hb hby at_20) rfl ?_
    show own_S p e below s₁ m 21 #[oI p0, oI p1, oI p2, oI p3, oI p4, oJ mv, oV, oJ dv, oV, oU, oU, oU, oU, oU, oU, oU, oU, oU, oU, oU] [(.long ((p2 &&& (1048575 : Int32)).toInt64))] _
    refine reJ (hkv.symm : ((p2 &&& (1048575 : Int32)).toInt64) = kv) ?_
    show own_S p e below s₁ m 21 #[oI p0, oI p1, oI p2, oI p3, oI p4, oJ mv, oV, oJ dv, oV, oU, oU, oU, oU, oU, oU, oU, oU, oU, oU, oU] [(.long kv)] _
    refine XS.lstore X0.here hx rfl (hb hby at_21) rfl (l' := #[.val (.int p0), .val (.int p1), .val (.int p2), .val (.int p3), .val (.int p4), .val (.long mv), .second, .val (.long dv), .second, .val (.long kv), .second, .unset, .unset, .unset, .unset, .unset, .unset, .unset, .unset, .unset]) rfl ?_
    show own_S p e below s₁ m 23 #[oI p0, oI p1, oI p2, oI p3, oI p4, oJ mv, oV, oJ dv, oV, oJ kv, oV, oU, oU, oU, oU, oU, oU, oU, oU, oU] [] _
    refine XS.iloadN X0.here hx rfl (hb hby at_23) rfl ?_
    show own_S p e below s₁ m 24 #[oI p0, oI p1, oI p2, oI p3, oI p4, oJ mv, oV, oJ dv, oV, oJ kv, oV, oU, oU, oU, oU, oU, oU, oU, oU, oU] [(.int p3)] _
    refine X0.ldcInt hx hown (mvT hZ (own_w hw 1 rfl)) (g := (mkF m 24 #[.val (.int p0), .val (.int p1), .val (.int p2), .val (.int p3), .val (.int p4), .val (.long mv), .second, .val (.long dv), .second, .val (.long kv), .second, .unset, .unset, .unset, .unset, .unset, .unset, .unset, .unset, .unset] [(.int p3)])) rfl (hb hby at_24) _ ?_
    show own_S p e below s₁ m 26 #[oI p0, oI p1, oI p2, oI p3, oI p4, oJ mv, oV, oJ dv, oV, oJ kv, oV, oU, oU, oU, oU, oU, oU, oU, oU, oU] [(.int 2147483647), (.int p3)] _
    refine XS.iand X0.here hx rfl (hb hby at_26) rfl ?_
    show own_S p e below s₁ m 27 #[oI p0, oI p1, oI p2, oI p3, oI p4, oJ mv, oV, oJ dv, oV, oJ kv, oV, oU, oU, oU, oU, oU, oU, oU, oU, oU] [(.int (p3 &&& (2147483647 : Int32)))] _
    refine XS.lload X0.here hx rfl (hb hby at_27) rfl ?_
    show own_S p e below s₁ m 29 #[oI p0, oI p1, oI p2, oI p3, oI p4, oJ mv, oV, oJ dv, oV, oJ kv, oV, oU, oU, oU, oU, oU, oU, oU, oU, oU] [(.long kv), (.int (p3 &&& (2147483647 : Int32)))] _
    refine XS.lconst X0.here hx rfl (hb hby at_29) ?_
    show own_S p e below s₁ m 30 #[oI p0, oI p1, oI p2, oI p3, oI p4, oJ mv, oV, oJ dv, oV, oJ kv, oV, oU, oU, oU, oU, oU, oU, oU, oU, oU] [(.long (1 : Int64)), (.long kv), (.int (p3 &&& (2147483647 : Int32)))] _
    refine XS.ladd X0.here hx rfl (hb hby at_30) rfl ?_
    show own_S p e below s₁ m 31 #[oI p0, oI p1, oI p2, oI p3, oI p4, oJ mv, oV, oJ dv, oV, oJ kv, oV, oU, oU, oU, oU, oU, oU, oU, oU, oU] [(.long (kv + (1 : Int64))), (.int (p3 &&& (2147483647 : Int32)))] _
    refine XS.l2i X0.here hx rfl (hb hby at_31) rfl ?_
    show own_S p e below s₁ m 32 #[oI p0, oI p1, oI p2, oI p3, oI p4, oJ mv, oV, oJ dv, oV, oJ kv, oV, oU, oU, oU, oU, oU, oU, oU, oU, oU] [(.int ((kv + (1 : Int64)).toInt32)), (.int (p3 &&& (2147483647 : Int32)))] _
    refine reI (hkp.symm : ((kv + (1 : Int64)).toInt32) = kp) ?_
    show own_S p e below s₁ m 32 #[oI p0, oI p1, oI p2, oI p3, oI p4, oJ mv, oV, oJ dv, oV, oJ kv, oV, oU, oU, oU, oU, oU, oU, oU, oU, oU] [(.int kp), (.int (p3 &&& (2147483647 : Int32)))] _
    refine iremM (g := (mkF m 32 #[.val (.int p0), .val (.int p1), .val (.int p2), .val (.int p3), .val (.int p4), .val (.long mv), .second, .val (.long dv), .second, .val (.long kv), .second, .unset, .unset, .unset, .unset, .unset, .unset, .unset, .unset, .unset] [(.int kp), (.int (p3 &&& (2147483647 : Int32)))])) X0 hx rfl (hb hby at_32) rfl hkz ?_
    show own_S p e below s₁ m 33 #[oI p0, oI p1, oI p2, oI p3, oI p4, oJ mv, oV, oJ dv, oV, oJ kv, oV, oU, oU, oU, oU, oU, oU, oU, oU, oU] [(.int ((p3 &&& (2147483647 : Int32)) % kp))] _
    refine XS.i2l X0.here hx rfl (hb hby at_33) rfl ?_
    show own_S p e below s₁ m 34 #[oI p0, oI p1, oI p2, oI p3, oI p4, oJ mv, oV, oJ dv, oV, oJ kv, oV, oU, oU, oU, oU, oU, oU, oU, oU, oU] [(.long (((p3 &&& (2147483647 : Int32)) % kp).toInt64))] _
    refine reJ (hcv.symm : (((p3 &&& (2147483647 : Int32)) % kp).toInt64) = cv) ?_
    show own_S p e below s₁ m 34 #[oI p0, oI p1, oI p2, oI p3, oI p4, oJ mv, oV, oJ dv, oV, oJ kv, oV, oU, oU, oU, oU, oU, oU, oU, oU, oU] [(.long cv)] _
    refine XS.lstore X0.here hx rfl (hb hby at_34) rfl (l' := #[.val (.int p0), .val (.int p1), .val (.int p2), .val (.int p3), .val (.int p4), .val (.long mv), .second, .val (.long dv), .second, .val (.long kv), .second, .val (.long cv), .second, .unset, .unset, .unset, .unset, .unset, .unset, .unset]) rfl ?_
    show own_S p e below s₁ m 36 #[oI p0, oI p1, oI p2, oI p3, oI p4, oJ mv, oV, oJ dv, oV, oJ kv, oV, oJ cv, oV, oU, oU, oU, oU, oU, oU, oU] [] _
    refine XS.iload X0.here hx rfl (hb hby at_36) rfl ?_
    show own_S p e below s₁ m 38 #[oI p0, oI p1, oI p2, oI p3, oI p4, oJ mv, oV, oJ dv, oV, oJ kv, oV, oJ cv, oV, oU, oU, oU, oU, oU, oU, oU] [(.int p4)] _
    refine XS.sipush X0.here hx rfl (hb hby at_38) ?_
    show own_S p e below s₁ m 41 #[oI p0, oI p1, oI p2, oI p3, oI p4, oJ mv, oV, oJ dv, oV, oJ kv, oV, oJ cv, oV, oU, oU, oU, oU, oU, oU, oU] [(.int 1023), (.int p4)] _
    refine XS.iand X0.here hx rfl (hb hby at_41) rfl ?_
    show own_S p e below s₁ m 42 #[oI p0, oI p1, oI p2, oI p3, oI p4, oJ mv, oV, oJ dv, oV, oJ kv, oV, oJ cv, oV, oU, oU, oU, oU, oU, oU, oU] [(.int (p4 &&& (1023 : Int32)))] _
    refine XS.i2l X0.here hx rfl (hb hby at_42) rfl ?_
    show own_S p e below s₁ m 43 #[oI p0, oI p1, oI p2, oI p3, oI p4, oJ mv, oV, oJ dv, oV, oJ kv, oV, oJ cv, oV, oU, oU, oU, oU, oU, oU, oU] [(.long ((p4 &&& (1023 : Int32)).toInt64))] _
    refine XS.lconst X0.here hx rfl (hb hby at_43) ?_
    show own_S p e below s₁ m 44 #[oI p0, oI p1, oI p2, oI p3, oI p4, oJ mv, oV, oJ dv, oV, oJ kv, oV, oJ cv, oV, oU, oU, oU, oU, oU, oU, oU] [(.long (1 : Int64)), (.long ((p4 &&& (1023 : Int32)).toInt64))] _
    refine XS.ladd X0.here hx rfl (hb hby at_44) rfl ?_
    show own_S p e below s₁ m 45 #[oI p0, oI p1, oI p2, oI p3, oI p4, oJ mv, oV, oJ dv, oV, oJ kv, oV, oJ cv, oV, oU, oU, oU, oU, oU, oU, oU] [(.long (((p4 &&& (1023 : Int32)).toInt64) + (1 : Int64)))] _
    refine reJ (htv.symm : (((p4 &&& (1023 : Int32)).toInt64) + (1 : Int64)) = tv) ?_
    show own_S p e below s₁ m 45 #[oI p0, oI p1, oI p2, oI p3, oI p4, oJ mv, oV, oJ dv, oV, oJ kv, oV, oJ cv, oV, oU, oU, oU, oU, oU, oU, oU] [(.long tv)] _
    refine XS.lstore X0.here hx rfl (hb hby at_45) rfl (l' := #[.val (.int p0), .val (.int p1), .val (.int p2), .val (.int p3), .val (.int p4), .val (.long mv), .second, .val (.long dv), .second, .val (.long kv), .second, .val (.long cv), .second, .val (.long tv), .second, .unset, .unset, .unset, .unset, .unset]) rfl ?_
    show own_S p e below s₁ m 47 #[oI p0, oI p1, oI p2, oI p3, oI p4, oJ mv, oV, oJ dv, oV, oJ kv, oV, oJ cv, oV, oJ tv, oV, oU, oU, oU, oU, oU] [] _
    refine XS.lload X0.here hx rfl (hb hby at_47) rfl ?_
    show own_S p e below s₁ m 49 #[oI p0, oI p1, oI p2, oI p3, oI p4, oJ mv, oV, oJ dv, oV, oJ kv, oV, oJ cv, oV, oJ tv, oV, oU, oU, oU, oU, oU] [(.long kv)] _
    refine XS.lload X0.here hx rfl (hb hby at_49) rfl ?_
    show own_S p e below s₁ m 51 #[oI p0, oI p1, oI p2, oI p3, oI p4, oJ mv, oV, oJ dv, oV, oJ kv, oV, oJ cv, oV, oJ tv, oV, oU, oU, oU, oU, oU] [(.long dv), (.long kv)] _
    refine XS.lload X0.here hx rfl (hb hby at_51) rfl ?_
    show own_S p e below s₁ m 53 #[oI p0, oI p1, oI p2, oI p3, oI p4, oJ mv, oV, oJ dv, oV, oJ kv, oV, oJ cv, oV, oJ tv, oV, oU, oU, oU, oU, oU] [(.long mv), (.long dv), (.long kv)] _
    refine XS.ladd X0.here hx rfl (hb hby at_53) rfl ?_
    show own_S p e below s₁ m 54 #[oI p0, oI p1, oI p2, oI p3, oI p4, oJ mv, oV, oJ dv, oV, oJ kv, oV, oJ cv, oV, oJ tv, oV, oU, oU, oU, oU, oU] [(.long (dv + mv)), (.long kv)] _
    refine XS.lmul X0.here hx rfl (hb hby at_54) rfl ?_
    show own_S p e below s₁ m 55 #[oI p0, oI p1, oI p2, oI p3, oI p4, oJ mv, oV, oJ dv, oV, oJ kv, oV, oJ cv, oV, oJ tv, oV, oU, oU, oU, oU, oU] [(.long (kv * (dv + mv)))] _
    refine XS.lload X0.here hx rfl (hb hby at_55) rfl ?_
    show own_S p e below s₁ m 57 #[oI p0, oI p1, oI p2, oI p3, oI p4, oJ mv, oV, oJ dv, oV, oJ kv, oV, oJ cv, oV, oJ tv, oV, oU, oU, oU, oU, oU] [(.long mv), (.long (kv * (dv + mv)))] _
    refine XS.lload X0.here hx rfl (hb hby at_57) rfl ?_
    show own_S p e below s₁ m 59 #[oI p0, oI p1, oI p2, oI p3, oI p4, oJ mv, oV, oJ dv, oV, oJ kv, oV, oJ cv, oV, oJ tv, oV, oU, oU, oU, oU, oU] [(.long cv), (.long mv), (.long (kv * (dv + mv)))] _
    refine XS.lmul X0.here hx rfl (hb hby at_59) rfl ?_
    show own_S p e below s₁ m 60 #[oI p0, oI p1, oI p2, oI p3, oI p4, oJ mv, oV, oJ dv, oV, oJ kv, oV, oJ cv, oV, oJ tv, oV, oU, oU, oU, oU, oU] [(.long (mv * cv)), (.long (kv * (dv + mv)))] _
    refine XS.lsub X0.here hx rfl (hb hby at_60) rfl ?_
    show own_S p e below s₁ m 61 #[oI p0, oI p1, oI p2, oI p3, oI p4, oJ mv, oV, oJ dv, oV, oJ kv, oV, oJ cv, oV, oJ tv, oV, oU, oU, oU, oU, oU] [(.long ((kv * (dv + mv)) - (mv * cv)))] _
    refine reJ (hfv.symm : ((kv * (dv + mv)) - (mv * cv)) = fv) ?_
    show own_S p e below s₁ m 61 #[oI p0, oI p1, oI p2, oI p3, oI p4, oJ mv, oV, oJ dv, oV, oJ kv, oV, oJ cv, oV, oJ tv, oV, oU, oU, oU, oU, oU] [(.long fv)] _
    refine XS.lstore X0.here hx rfl (hb hby at_61) rfl (l' := #[.val (.int p0), .val (.int p1), .val (.int p2), .val (.int p3), .val (.int p4), .val (.long mv), .second, .val (.long dv), .second, .val (.long kv), .second, .val (.long cv), .second, .val (.long tv), .second, .val (.long fv), .second, .unset, .unset, .unset]) rfl ?_
    show own_S p e below s₁ m 63 #[oI p0, oI p1, oI p2, oI p3, oI p4, oJ mv, oV, oJ dv, oV, oJ kv, oV, oJ cv, oV, oJ tv, oV, oJ fv, oV, oU, oU, oU] [] _
    refine st101 _ ?_
    show own_S p e below T101 m 66 #[oI p0, oI p1, oI p2, oI p3, oI p4, oJ mv, oV, oJ dv, oV, oJ kv, oV, oJ cv, oV, oJ tv, oV, oJ fv, oV, oU, oU, oU] [(.ref b101)] _
    refine XS.dup X101.here hx rfl (hb hby at_66) rfl rfl ?_
    show own_S p e below T101 m 67 #[oI p0, oI p1, oI p2, oI p3, oI p4, oJ mv, oV, oJ dv, oV, oJ kv, oV, oJ cv, oV, oJ tv, oV, oJ fv, oV, oU, oU, oU] [(.ref b101), (.ref b101)] _
    refine XS.lload X101.here hx rfl (hb hby at_67) rfl ?_
    show own_S p e below T101 m 69 #[oI p0, oI p1, oI p2, oI p3, oI p4, oJ mv, oV, oJ dv, oV, oJ kv, oV, oJ cv, oV, oJ tv, oV, oJ fv, oV, oU, oU, oU] [(.long mv), (.ref b101), (.ref b101)] _
    refine XS.l2dS X101.here hx rfl (v := (FP.l2d mv)) (hb hby at_69) rfl rfl ?_
    show own_S p e below T101 m 70 #[oI p0, oI p1, oI p2, oI p3, oI p4, oJ mv, oV, oJ dv, oV, oJ kv, oV, oJ cv, oV, oJ tv, oV, oJ fv, oV, oU, oU, oU] [(.double (FP.l2d mv)), (.ref b101), (.ref b101)] _
    refine st104.trans ?_
    show own_S p e below T104 m 73 #[oI p0, oI p1, oI p2, oI p3, oI p4, oJ mv, oV, oJ dv, oV, oJ kv, oV, oJ cv, oV, oJ tv, oV, oJ fv, oV, oU, oU, oU] [(.ref b101)] _
    refine XS.astore X104.here hx rfl (hb hby at_73) rfl rfl (l' := #[.val (.int p0), .val (.int p1), .val (.int p2), .val (.int p3), .val (.int p4), .val (.long mv), .second, .val (.long dv), .second, .val (.long kv), .second, .val (.long cv), .second, .val (.long tv), .second, .val (.long fv), .second, .val (.ref b101), .unset, .unset]) rfl ?_
    show own_S p e below T104 m 75 #[oI p0, oI p1, oI p2, oI p3, oI p4, oJ mv, oV, oJ dv, oV, oJ kv, oV, oJ cv, oV, oJ tv, oV, oJ fv, oV, oR b101, oU, oU] [] _
    refine XS.aload X104.here hx rfl (hb hby at_75) rfl rfl ?_
    show own_S p e below T104 m 77 #[oI p0, oI p1, oI p2, oI p3, oI p4, oJ mv, oV, oJ dv, oV, oJ kv, oV, oJ cv, oV, oJ tv, oV, oJ fv, oV, oR b101, oU, oU] [(.ref b101)] _
    refine XS.lload X104.here hx rfl (hb hby at_77) rfl ?_
    show own_S p e below T104 m 79 #[oI p0, oI p1, oI p2, oI p3, oI p4, oJ mv, oV, oJ dv, oV, oJ kv, oV, oJ cv, oV, oJ tv, oV, oJ fv, oV, oR b101, oU, oU] [(.long fv), (.ref b101)] _
    refine XS.l2dS X104.here hx rfl (v := (FP.l2d fv)) (hb hby at_79) rfl rfl ?_
    show own_S p e below T104 m 80 #[oI p0, oI p1, oI p2, oI p3, oI p4, oJ mv, oV, oJ dv, oV, oJ kv, oV, oJ cv, oV, oJ tv, oV, oJ fv, oV, oR b101, oU, oU] [(.double (FP.l2d fv)), (.ref b101)] _
    refine XS.lload X104.here hx rfl (hb hby at_80) rfl ?_
    show own_S p e below T104 m 82 #[oI p0, oI p1, oI p2, oI p3, oI p4, oJ mv, oV, oJ dv, oV, oJ kv, oV, oJ cv, oV, oJ tv, oV, oJ fv, oV, oR b101, oU, oU] [(.long cv), (.double (FP.l2d fv)), (.ref b101)] _
    refine XS.lload X104.here hx rfl (hb hby at_82) rfl ?_
    show own_S p e below T104 m 84 #[oI p0, oI p1, oI p2, oI p3, oI p4, oJ mv, oV, oJ dv, oV, oJ kv, oV, oJ cv, oV, oJ tv, oV, oJ fv, oV, oR b101, oU, oU] [(.long tv), (.long cv), (.double (FP.l2d fv)), (.ref b101)] _
    refine XS.lmul X104.here hx rfl (hb hby at_84) rfl ?_
    show own_S p e below T104 m 85 #[oI p0, oI p1, oI p2, oI p3, oI p4, oJ mv, oV, oJ dv, oV, oJ kv, oV, oJ cv, oV, oJ tv, oV, oJ fv, oV, oR b101, oU, oU] [(.long (cv * tv)), (.double (FP.l2d fv)), (.ref b101)] _
    refine XS.l2dS X104.here hx rfl (v := (FP.l2d (cv * tv))) (hb hby at_85) rfl rfl ?_
    show own_S p e below T104 m 86 #[oI p0, oI p1, oI p2, oI p3, oI p4, oJ mv, oV, oJ dv, oV, oJ kv, oV, oJ cv, oV, oJ tv, oV, oJ fv, oV, oR b101, oU, oU] [(.double (FP.l2d (cv * tv))), (.double (FP.l2d fv)), (.ref b101)] _
    refine XS.lload X104.here hx rfl (hb hby at_86) rfl ?_
    show own_S p e below T104 m 88 #[oI p0, oI p1, oI p2, oI p3, oI p4, oJ mv, oV, oJ dv, oV, oJ kv, oV, oJ cv, oV, oJ tv, oV, oJ fv, oV, oR b101, oU, oU] [(.long tv), (.double (FP.l2d (cv * tv))), (.double (FP.l2d fv)), (.ref b101)] _
    refine XS.l2dS X104.here hx rfl (v := (FP.l2d tv)) (hb hby at_88) rfl rfl ?_
    show own_S p e below T104 m 89 #[oI p0, oI p1, oI p2, oI p3, oI p4, oJ mv, oV, oJ dv, oV, oJ kv, oV, oJ cv, oV, oJ tv, oV, oJ fv, oV, oR b101, oU, oU] [(.double (FP.l2d tv)), (.double (FP.l2d (cv * tv))), (.double (FP.l2d fv)), (.ref b101)] _
    refine XS.lload X104.here hx rfl (hb hby at_89) rfl ?_
    show own_S p e below T104 m 91 #[oI p0, oI p1, oI p2, oI p3, oI p4, oJ mv, oV, oJ dv, oV, oJ kv, oV, oJ cv, oV, oJ tv, oV, oJ fv, oV, oR b101, oU, oU] [(.long dv), (.double (FP.l2d tv)), (.double (FP.l2d (cv * tv))), (.double (FP.l2d fv)), (.ref b101)] _
    refine XS.l2dS X104.here hx rfl (v := (FP.l2d dv)) (hb hby at_91) rfl rfl ?_
    show own_S p e below T104 m 92 #[oI p0, oI p1, oI p2, oI p3, oI p4, oJ mv, oV, oJ dv, oV, oJ kv, oV, oJ cv, oV, oJ tv, oV, oJ fv, oV, oR b101, oU, oU] [(.double (FP.l2d dv)), (.double (FP.l2d tv)), (.double (FP.l2d (cv * tv))), (.double (FP.l2d fv)), (.ref b101)] _
    refine st106.trans ?_
    show own_S p e below T106 m 95 #[oI p0, oI p1, oI p2, oI p3, oI p4, oJ mv, oV, oJ dv, oV, oJ kv, oV, oJ cv, oV, oJ tv, oV, oJ fv, oV, oR b101, oU, oU] [(.double (FP.ddiv (FP.dadd (FP.l2d fv) (FP.ddiv (FP.dmul (FP.l2d mv) (FP.l2d (cv * tv))) (FP.l2d tv))) (FP.dadd (FP.l2d dv) (FP.l2d mv))))] _
    refine XS.dstore X106.here hx rfl (hb hby at_95) rfl (l' := #[.val (.int p0), .val (.int p1), .val (.int p2), .val (.int p3), .val (.int p4), .val (.long mv), .second, .val (.long dv), .second, .val (.long kv), .second, .val (.long cv), .second, .val (.long tv), .second, .val (.long fv), .second, .val (.ref b101), .val (.double (FP.ddiv (FP.dadd (FP.l2d fv) (FP.ddiv (FP.dmul (FP.l2d mv) (FP.l2d (cv * tv))) (FP.l2d tv))) (FP.dadd (FP.l2d dv) (FP.l2d mv)))), .second]) rfl ?_
    show own_S p e below T106 m 97 #[oI p0, oI p1, oI p2, oI p3, oI p4, oJ mv, oV, oJ dv, oV, oJ kv, oV, oJ cv, oV, oJ tv, oV, oJ fv, oV, oR b101, .val (.double (FP.ddiv (FP.dadd (FP.l2d fv) (FP.ddiv (FP.dmul (FP.l2d mv) (FP.l2d (cv * tv))) (FP.l2d tv))) (FP.dadd (FP.l2d dv) (FP.l2d mv)))), oV] [] _
    refine XS.dload X106.here hx rfl (hb hby at_97) rfl ?_
    show own_S p e below T106 m 99 #[oI p0, oI p1, oI p2, oI p3, oI p4, oJ mv, oV, oJ dv, oV, oJ kv, oV, oJ cv, oV, oJ tv, oV, oJ fv, oV, oR b101, .val (.double (FP.ddiv (FP.dadd (FP.l2d fv) (FP.ddiv (FP.dmul (FP.l2d mv) (FP.l2d (cv * tv))) (FP.l2d tv))) (FP.dadd (FP.l2d dv) (FP.l2d mv)))), oV] [(.double (FP.ddiv (FP.dadd (FP.l2d fv) (FP.ddiv (FP.dmul (FP.l2d mv) (FP.l2d (cv * tv))) (FP.l2d tv))) (FP.dadd (FP.l2d dv) (FP.l2d mv))))] _
    refine XS.lload X106.here hx rfl (hb hby at_99) rfl ?_
    show own_S p e below T106 m 101 #[oI p0, oI p1, oI p2, oI p3, oI p4, oJ mv, oV, oJ dv, oV, oJ kv, oV, oJ cv, oV, oJ tv, oV, oJ fv, oV, oR b101, .val (.double (FP.ddiv (FP.dadd (FP.l2d fv) (FP.ddiv (FP.dmul (FP.l2d mv) (FP.l2d (cv * tv))) (FP.l2d tv))) (FP.dadd (FP.l2d dv) (FP.l2d mv)))), oV] [(.long kv), (.double (FP.ddiv (FP.dadd (FP.l2d fv) (FP.ddiv (FP.dmul (FP.l2d mv) (FP.l2d (cv * tv))) (FP.l2d tv))) (FP.dadd (FP.l2d dv) (FP.l2d mv))))] _
    refine XS.l2dS X106.here hx rfl (v := (FP.l2d kv)) (hb hby at_101) rfl rfl ?_
    show own_S p e below T106 m 102 #[oI p0, oI p1, oI p2, oI p3, oI p4, oJ mv, oV, oJ dv, oV, oJ kv, oV, oJ cv, oV, oJ tv, oV, oJ fv, oV, oR b101, .val (.double (FP.ddiv (FP.dadd (FP.l2d fv) (FP.ddiv (FP.dmul (FP.l2d mv) (FP.l2d (cv * tv))) (FP.l2d tv))) (FP.dadd (FP.l2d dv) (FP.l2d mv)))), oV] [(.double (FP.l2d kv)), (.double (FP.ddiv (FP.dadd (FP.l2d fv) (FP.ddiv (FP.dmul (FP.l2d mv) (FP.l2d (cv * tv))) (FP.l2d tv))) (FP.dadd (FP.l2d dv) (FP.l2d mv))))] _
    refine XS.dcmpS X106.here hx rfl (v := (0 : Int32)) (hb hby at_102) rfl (own_ieq D5 Dk rfl .l) ?_
    show own_S p e below T106 m 103 #[oI p0, oI p1, oI p2, oI p3, oI p4, oJ mv, oV, oJ dv, oV, oJ kv, oV, oJ cv, oV, oJ tv, oV, oJ fv, oV, oR b101, .val (.double (FP.ddiv (FP.dadd (FP.l2d fv) (FP.ddiv (FP.dmul (FP.l2d mv) (FP.l2d (cv * tv))) (FP.l2d tv))) (FP.dadd (FP.l2d dv) (FP.l2d mv)))), oV] [(.int 0)] _
    refine XS.ifNo X106.here hx rfl (hb hby at_103) rfl ((if0 _ _).trans (teq (by decide : (0 : Int32) = (0 : Int32))).2) ?_
    show own_S p e below T106 m 106 #[oI p0, oI p1, oI p2, oI p3, oI p4, oJ mv, oV, oJ dv, oV, oJ kv, oV, oJ cv, oV, oJ tv, oV, oJ fv, oV, oR b101, .val (.double (FP.ddiv (FP.dadd (FP.l2d fv) (FP.ddiv (FP.dmul (FP.l2d mv) (FP.l2d (cv * tv))) (FP.l2d tv))) (FP.dadd (FP.l2d dv) (FP.l2d mv)))), oV] [] _
    refine XS.iconst X106.here hx rfl (hb hby at_106) ?_
    show own_S p e below T106 m 107 #[oI p0, oI p1, oI p2, oI p3, oI p4, oJ mv, oV, oJ dv, oV, oJ kv, oV, oJ cv, oV, oJ tv, oV, oJ fv, oV, oR b101, .val (.double (FP.ddiv (FP.dadd (FP.l2d fv) (FP.ddiv (FP.dmul (FP.l2d mv) (FP.l2d (cv * tv))) (FP.l2d tv))) (FP.dadd (FP.l2d dv) (FP.l2d mv)))), oV] [(.int 1)] _
    refine XS.goto X106.here hx rfl (pc0 := 107) (pc' := 111) rfl (hb hby at_107) (by decide) (by decide) ?_
    show own_S p e below T106 m 111 #[oI p0, oI p1, oI p2, oI p3, oI p4, oJ mv, oV, oJ dv, oV, oJ kv, oV, oJ cv, oV, oJ tv, oV, oJ fv, oV, oR b101, .val (.double (FP.ddiv (FP.dadd (FP.l2d fv) (FP.ddiv (FP.dmul (FP.l2d mv) (FP.l2d (cv * tv))) (FP.l2d tv))) (FP.dadd (FP.l2d dv) (FP.l2d mv)))), oV] [(.int 1)] _
    exact retN X106 hx (t := .boolean) Bd.returns (by simp) (hb hby at_111) hr
  · show Qm0 Z p0 p1 p2 p3 p4 h0 n0 _ T106.heap _
    rw [P106_0]
    exact ⟨rfl, N106⟩
set_option maxRecDepth 65536 in
set_option maxHeartbeats 40000000 in
theorem comes_1 {Post : Tables → Env → Array Value → State → Outcome → State → Prop} (hpost : ∀ tb e args s v u, (limb_1_1.after args s (.returned v) u = true ∧ limb_1_2.after args s (.returned v) u = true ∧ True) → ReturnedEndW s (.returned v) u (Jvm.fieldLocs frame_1_writes args s ++ Jvm.arrayLocs frame_1_arrays args s ++ Jvm.staticLocs frame_1_statics s) 16 2176 → Post tb e args s (.returned v) u) :
    ArmFor flags0 classFile x code maxLocals ret World_1 tables_1 room_1 Calls_1 rest_1 Pre_1 Post := by
  intro l hfl _ _ p e ha hc hk s m args below hf hA hF happ hP
  obtain ⟨hcalls, hrest, hpre⟩ := hP
  obtain ⟨-, -, -, hnamed, -, -, -, hat⟩ := (Spec.applies_iff hf).mp happ
  obtain ⟨hg, hn⟩ := and_e (Cond.before_iff.mp (show (Jvm.Cond.and given_1 narrow_1).before args s = true from hpre))
  obtain ⟨hcount, hg0⟩ := and_e hg
  obtain ⟨hv0, hg1⟩ := and_e hg0
  obtain ⟨hv1, hg2⟩ := and_e hg1
  obtain ⟨hv2, hg3⟩ := and_e hg2
  obtain ⟨hv3, hg4⟩ := and_e hg3
  obtain ⟨w0, w1, w2, w3, w4, rfl⟩ : ∃ w0 w1 w2 w3 w4 : Value, args = #[w0, w1, w2, w3, w4] := by
    have hs : args.size = 5 := by simpa [Cond.value, given_1] using hcount
    obtain ⟨L⟩ := args
    match L, hs with
    | [w0, w1, w2, w3, w4], _ => exact ⟨w0, w1, w2, w3, w4, rfl⟩
  have hw := fun d (hd : d ∈ tables_1) => atoms_spec (ws := Jvm.Cond.code x code maxLocals ret :: tables_1) hat d (List.mem_cons_of_mem _ hd)
  have hfit : Fit s := fun {y c} hc i hi => by
    obtain ⟨ha, rfl⟩ := Array.getElem?_eq_some_iff.mp hc
    have q := List.all_eq_true.mp ((Array.all_eq_true_iff_forall_mem.mp hF) _ (Array.getElem_mem ha)) i (List.mem_range.mpr hi)
    simpa [Array.getElem?_eq_getElem hi] using q
  obtain ⟨i0, ei0⟩ := is_v hv0
  obtain rfl : w0 = (.int i0) := Option.some.inj ei0
  obtain ⟨i1, ei1⟩ := is_v hv1
  obtain rfl : w1 = (.int i1) := Option.some.inj ei1
  obtain ⟨i2, ei2⟩ := is_v hv2
  obtain rfl : w2 = (.int i2) := Option.some.inj ei2
  obtain ⟨i3, ei3⟩ := is_v hv3
  obtain rfl : w3 = (.int i3) := Option.some.inj ei3
  obtain ⟨i4, ei4⟩ := is_v hg4
  obtain rfl : w4 = (.int i4) := Option.some.inj ei4
  obtain ⟨n, o, h1, h2, h3, _, L, rfl, ⟨rfl, N⟩, hq⟩ := rmm0 l s _ hw tables_1 i0 i1 i2 i3 i4 s.heap s.heap.size (Nat.le_refl _)  p e ha hc hk s m _ below hf ((Spec.applies_iff_loose hf).mp happ).1 ⟨rfl, State.Warmed39.refl s, rfl⟩ trivial
  refine ⟨n, _, h1, h2, h3, hpost _ _ _ _ _ _ ⟨Cond.after_iff.mpr rfl, Cond.after_iff.mpr (eq_i res_at (Term.int_eval (1)) rfl), trivial⟩ ⟨hq.1, hq.2.1, hq.2.2.1, (hq.2.2.2.sift fun y hy => Or.inr (N y hy)).mono (by decide) (by decide)⟩⟩
theorem main_1_1 : Claimed_1_1 := comes_1 fun _ _ _ _ _ _ h hF => ⟨h.1, hF⟩
theorem main_1_2 : Claimed_1_2 := comes_1 fun _ _ _ _ _ _ h hF => ⟨h.2.1, hF⟩
end Jvm.Pilot.@@N@@
namespace Jvm.Pilot.@@N@@
open Jvm Jvm.ClassFile Sem Op Lib Jvm.Free Jvm.Stand Jvm.Pilot.@@N@@.Jvm.D
/-! MADE BY PROGRAM (witnessworld.py) out of the Statement's table words and the real class files: 18 classes; the members and pool entries that the words name. The judged class is class 1, her method 1. -/
namespace start1
open Jvm.ClassFile
def u (s : String) : CpInfo := .utf8 (stringToUtf16 s)
/-- a pool by its gaps: so many unusable entries, then the entry; so many at the end -/
def gap : Nat → List CpInfo → List CpInfo
  | 0, r => r
  | n + 1, r => .unusable :: gap n r
def poolList (es : List (Nat × CpInfo)) (last : Nat) : List CpInfo := es.foldr (fun e r => gap e.1 (e.2 :: r)) (gap last [])
def pool (es : List (Nat × CpInfo)) (last : Nat) : Array CpInfo := ⟨poolList es last⟩
def fileOf (pool : Array CpInfo) (this : Nat) (attrs : Array Attribute := #[]) (ms : Array MethodInfo := #[]) (fl : Nat := 33) (sup : Nat := 0) (ifs : Array Nat := #[]) (fds : Array FieldInfo := #[]) : ClassFile where
  minorVersion := 0
  majorVersion := 65
  constantPool := pool
  accessFlags := fl
  thisClass := this
  superClass := sup
  interfaces := ifs
  fields := fds
  methods := ms
  attributes := attrs
def plain (name : String) (sup : Option ClassId) : Class where
  name := name
  kind := .ordinary
  loader := none
  accessFlags := 33
  super := sup
  interfaces := #[]
  cf := none
  fields := #[]
  methods := #[]
  instanceTypes := #[]
  staticTypes := #[]
  resolved := #[]
  callSites := []
  init := .initialized
  statics := none
  mirror := none

def pool0 : Array CpInfo := pool [(5, u "<init>"), (0, u "()V"), (1, .class_ 10), (1, u "java/lang/Object")] 113

def k0c0 : Code := { maxStack := 0, maxLocals := 1, code := object_method_1_code, exceptionTable := #[], attributes := #[] }
def k0m0 : Method := { name := "<init>", desc := "()V", sig := { parameters := [], returnType := none }, accessFlags := 1, code := some k0c0 }
/-- java/lang/Object -/
def k0 : Class := { plain "java/lang/Object" none with
  accessFlags := 33
  interfaces := #[]
  cf := some (fileOf pool0 8 #[] #[{ accessFlags := 1, nameIndex := 5, descriptorIndex := 6, attributes := #[] }] 33 0 #[] #[])
  fields := #[]
  methods := #[k0m0]
  instanceTypes := #[]
  staticTypes := #[]
  resolved := Array.replicate 124 none
  statics := none }

def pool1 : Array CpInfo := pool [(2, .class_ 4), (1, u "java/lang/Object"), (0, u "<init>"), (0, u "()V"), (0, .integer 1048575), (0, .integer 2147483647), (0, .class_ 10), (0, u "com/example/buurt/buurt/model/Dirichlet"), (0, .methodref 9 12), (0, .nameAndType 5 13), (0, u "(D)V"), (0, .methodref 9 15), (0, .nameAndType 16 17), (0, u "probability"), (0, u "(DDDD)D"), (0, .class_ 19), (0, u "com/example/buurt/buurt/model/DirichletProbabilityPinLaw"), (2, u "law"), (0, u "(IIIII)Z")] 3

def k1m0 : Method := { name := "<init>", desc := "()V", sig := { parameters := [], returnType := none }, accessFlags := 1, code := none }
def k1c1 : Code := { maxStack := 9, maxLocals := 20, code := code, exceptionTable := #[], attributes := #[] }
def k1m1 : Method := { name := "law", desc := "(IIIII)Z", sig := { parameters := [.int, .int, .int, .int, .int], returnType := some .boolean }, accessFlags := 9, code := some k1c1 }
/-- com/example/buurt/buurt/model/DirichletProbabilityPinLaw -/
def k1 : Class := { plain "com/example/buurt/buurt/model/DirichletProbabilityPinLaw" (some 0) with
  accessFlags := 49
  interfaces := #[]
  cf := some (fileOf pool1 18 #[] #[{ accessFlags := 1, nameIndex := 5, descriptorIndex := 6, attributes := #[] }, { accessFlags := 9, nameIndex := 22, descriptorIndex := 23, attributes := #[] }] 49 2 #[] #[])
  fields := #[]
  methods := #[k1m0, k1m1]
  instanceTypes := #[]
  staticTypes := #[]
  resolved := Array.replicate 27 none
  statics := none }

def pool2 : Array CpInfo := pool [(1, .methodref 2 3), (0, .class_ 4), (0, .nameAndType 5 6), (0, u "java/lang/Object"), (0, u "<init>"), (0, u "()V"), (0, .class_ 8), (0, u "java/lang/Record")] 13

def k2c0 : Code := { maxStack := 1, maxLocals := 1, code := jdk_30_method_1_code, exceptionTable := #[], attributes := #[] }
def k2m0 : Method := { name := "<init>", desc := "()V", sig := { parameters := [], returnType := none }, accessFlags := 4, code := some k2c0 }
/-- java/lang/Record -/
def k2 : Class := { plain "java/lang/Record" (some 0) with
  accessFlags := 1057
  interfaces := #[]
  cf := some (fileOf pool2 7 #[] #[{ accessFlags := 4, nameIndex := 5, descriptorIndex := 6, attributes := #[] }] 1057 2 #[] #[])
  fields := #[]
  methods := #[k2m0]
  instanceTypes := #[]
  staticTypes := #[]
  resolved := Array.replicate 22 none
  statics := none }

def pool3 : Array CpInfo := pool [(1, .methodref 2 3), (0, .class_ 4), (0, .nameAndType 5 6), (0, u "java/lang/Record"), (0, u "<init>"), (0, u "()V"), (0, .string 8), (0, u "mu"), (0, .methodref 10 11), (0, .class_ 12), (0, .nameAndType 13 14), (0, u "com/example/buurt/buurt/model/Parameters"), (0, u "requirePositive"), (0, u "(Ljava/lang/String;D)V"), (0, .fieldref 16 17), (0, .class_ 18), (0, .nameAndType 8 19), (0, u "com/example/buurt/buurt/model/Dirichlet"), (0, u "D"), (28, u "(D)V"), (3, u "probability"), (0, u "(DDDD)D")] 23

def k3c0 : Code := { maxStack := 3, maxLocals := 3, code := prog_28_method_1_code, exceptionTable := #[], attributes := #[] }
def k3m0 : Method := { name := "<init>", desc := "(D)V", sig := { parameters := [.double], returnType := none }, accessFlags := 1, code := some k3c0 }
def k3c1 : Code := { maxStack := 6, maxLocals := 9, code := prog_28_method_2_code, exceptionTable := #[], attributes := #[] }
def k3m1 : Method := { name := "probability", desc := "(DDDD)D", sig := { parameters := [.double, .double, .double, .double], returnType := some .double }, accessFlags := 1, code := some k3c1 }
/-- com/example/buurt/buurt/model/Dirichlet -/
def k3 : Class := { plain "com/example/buurt/buurt/model/Dirichlet" (some 2) with
  accessFlags := 49
  interfaces := #[]
  cf := some (fileOf pool3 16 #[] #[{ accessFlags := 1, nameIndex := 5, descriptorIndex := 48, attributes := #[] }, { accessFlags := 1, nameIndex := 52, descriptorIndex := 53, attributes := #[] }] 49 2 #[] #[{ accessFlags := 18, nameIndex := 8, descriptorIndex := 19, attributes := #[] }])
  fields := #[{ name := "mu", type := .double, accessFlags := 18, slot := 0, constantValue := 0 }]
  methods := #[k3m0, k3m1]
  instanceTypes := #[.double]
  staticTypes := #[]
  resolved := Array.replicate 77 none
  statics := none }

def pool4 : Array CpInfo := pool [(1, .class_ 2), (0, u "java/io/Serializable"), (0, .class_ 4), (0, u "java/lang/Object")] 2

/-- java/io/Serializable -/
def k4 : Class := { plain "java/io/Serializable" (some 0) with
  accessFlags := 1537
  interfaces := #[]
  cf := some (fileOf pool4 1 #[] #[] 1537 3 #[] #[])
  fields := #[]
  methods := #[]
  instanceTypes := #[]
  staticTypes := #[]
  resolved := Array.replicate 7 none
  statics := none }

def pool5 : Array CpInfo := pool [(1, .class_ 2), (0, u "java/lang/Comparable"), (0, .class_ 4), (0, u "java/lang/Object")] 7

/-- java/lang/Comparable -/
def k5 : Class := { plain "java/lang/Comparable" (some 0) with
  accessFlags := 1537
  interfaces := #[]
  cf := some (fileOf pool5 1 #[] #[] 1537 3 #[] #[])
  fields := #[]
  methods := #[]
  instanceTypes := #[]
  staticTypes := #[]
  resolved := Array.replicate 12 none
  statics := none }

def pool6 : Array CpInfo := pool [(2, .class_ 4), (1, u "java/lang/CharSequence"), (42, .class_ 48), (0, u "java/lang/CharSequence$1CodePointIterator"), (10, .class_ 60), (0, u "java/lang/CharSequence$1CharIterator"), (5, .class_ 67), (0, u "java/lang/Object")] 63

/-- java/lang/CharSequence -/
def k6 : Class := { plain "java/lang/CharSequence" (some 0) with
  accessFlags := 1537
  interfaces := #[]
  cf := some (fileOf pool6 2 #[.nestMembers #[47, 59]] #[] 1537 66 #[] #[])
  fields := #[]
  methods := #[]
  instanceTypes := #[]
  staticTypes := #[]
  resolved := Array.replicate 131 none
  statics := none }

def pool7 : Array CpInfo := pool [(1, .class_ 2), (0, u "java/lang/constant/Constable"), (0, .class_ 4), (0, u "java/lang/Object")] 6

/-- java/lang/constant/Constable -/
def k7 : Class := { plain "java/lang/constant/Constable" (some 0) with
  accessFlags := 1537
  interfaces := #[]
  cf := some (fileOf pool7 1 #[] #[] 1537 3 #[] #[])
  fields := #[]
  methods := #[]
  instanceTypes := #[]
  staticTypes := #[]
  resolved := Array.replicate 11 none
  statics := none }

def pool8 : Array CpInfo := pool [(1, .class_ 2), (0, u "java/lang/constant/ConstantDesc"), (0, .class_ 4), (0, u "java/lang/Object")] 32

/-- java/lang/constant/ConstantDesc -/
def k8 : Class := { plain "java/lang/constant/ConstantDesc" (some 0) with
  accessFlags := 1537
  interfaces := #[]
  cf := some (fileOf pool8 1 #[] #[] 1537 3 #[] #[])
  fields := #[]
  methods := #[]
  instanceTypes := #[]
  staticTypes := #[]
  resolved := Array.replicate 37 none
  statics := none }

def pool9 : Array CpInfo := pool [(2, .class_ 4), (1, u "java/lang/Object"), (0, u "<init>"), (0, u "()V"), (3, .class_ 12), (1, u "java/lang/String"), (0, u "value"), (0, u "[B"), (2, u "coder"), (0, u "B"), (2, u "hash"), (0, u "I"), (2, u "hashIsZero"), (0, u "Z"), (13, u "COMPACT_STRINGS"), (534, .class_ 576), (0, u "java/lang/CharSequence"), (22, u "CASE_INSENSITIVE_ORDER"), (0, u "Ljava/util/Comparator;"), (500, u "serialPersistentFields"), (0, u "[Ljava/io/ObjectStreamField;"), (0, .class_ 1104), (0, u "java/lang/String$CaseInsensitiveComparator"), (1, .class_ 1107), (0, u "java/io/Serializable"), (0, .class_ 1109), (0, u "java/lang/Comparable"), (0, .class_ 1111), (0, u "java/lang/constant/Constable"), (0, .class_ 1113), (0, u "java/lang/constant/ConstantDesc"), (2, u "serialVersionUID"), (0, u "J"), (3, u "REPL"), (0, u "C"), (2, u "LATIN1"), (1, u "UTF16")] 323

def k9m0 : Method := { name := "<init>", desc := "()V", sig := { parameters := [], returnType := none }, accessFlags := 1, code := none }
/-- java/lang/String -/
def k9 : Class := { plain "java/lang/String" (some 0) with
  accessFlags := 49
  interfaces := #[4, 5, 6, 7, 8]
  cf := some (fileOf pool9 10 #[.nestMembers #[1103]] #[{ accessFlags := 1, nameIndex := 5, descriptorIndex := 6, attributes := #[] }] 49 2 #[1106, 1108, 575, 1110, 1112] #[{ accessFlags := 18, nameIndex := 13, descriptorIndex := 14, attributes := #[] }, { accessFlags := 18, nameIndex := 17, descriptorIndex := 18, attributes := #[] }, { accessFlags := 2, nameIndex := 21, descriptorIndex := 22, attributes := #[] }, { accessFlags := 2, nameIndex := 25, descriptorIndex := 26, attributes := #[] }, { accessFlags := 26, nameIndex := 1116, descriptorIndex := 1117, attributes := #[] }, { accessFlags := 24, nameIndex := 40, descriptorIndex := 26, attributes := #[] }, { accessFlags := 26, nameIndex := 1101, descriptorIndex := 1102, attributes := #[] }, { accessFlags := 26, nameIndex := 1121, descriptorIndex := 1122, attributes := #[] }, { accessFlags := 25, nameIndex := 599, descriptorIndex := 600, attributes := #[] }, { accessFlags := 24, nameIndex := 1125, descriptorIndex := 18, attributes := #[] }, { accessFlags := 24, nameIndex := 1127, descriptorIndex := 18, attributes := #[] }])
  fields := #[{ name := "value", type := (.array .byte), accessFlags := 18, slot := 0, constantValue := 0 }, { name := "coder", type := .byte, accessFlags := 18, slot := 1, constantValue := 0 }, { name := "hash", type := .int, accessFlags := 2, slot := 2, constantValue := 0 }, { name := "hashIsZero", type := .boolean, accessFlags := 2, slot := 3, constantValue := 0 }, { name := "serialVersionUID", type := .long, accessFlags := 26, slot := 0, constantValue := 0 }, { name := "COMPACT_STRINGS", type := .boolean, accessFlags := 24, slot := 1, constantValue := 0 }, { name := "serialPersistentFields", type := (.array (.object "java/io/ObjectStreamField")), accessFlags := 26, slot := 2, constantValue := 0 }, { name := "REPL", type := .char, accessFlags := 26, slot := 3, constantValue := 0 }, { name := "CASE_INSENSITIVE_ORDER", type := (.object "java/util/Comparator"), accessFlags := 25, slot := 4, constantValue := 0 }, { name := "LATIN1", type := .byte, accessFlags := 24, slot := 5, constantValue := 0 }, { name := "UTF16", type := .byte, accessFlags := 24, slot := 6, constantValue := 0 }]
  methods := #[k9m0]
  instanceTypes := #[(.array .byte), .byte, .int, .boolean]
  staticTypes := #[.long, .boolean, (.array (.object "java/io/ObjectStreamField")), .char, (.object "java/util/Comparator"), .byte, .byte]
  resolved := Array.replicate 1451 none
  statics := none }

def pool10 : Array CpInfo := pool [(2, .class_ 4), (1, u "java/lang/Object"), (0, u "<init>"), (0, u "()V"), (0, .methodref 8 9), (0, .class_ 10), (0, .nameAndType 11 12), (0, u "java/lang/Double"), (0, u "valueOf"), (0, u "(D)Ljava/lang/Double;"), (2, .methodref 16 17), (0, .class_ 18), (0, .nameAndType 19 20), (0, u "com/example/buurt/buurt/model/Parameters"), (0, u "require"), (0, u "(Ljava/lang/String;Ljava/lang/Object;ZLjava/lang/String;)V"), (0, .double 9218868437227405311), (1, .string 24), (0, u "finite and above 0"), (17, u "(Ljava/lang/String;D)V"), (1, u "requirePositive")] 17

def k10m0 : Method := { name := "<init>", desc := "()V", sig := { parameters := [], returnType := none }, accessFlags := 2, code := none }
def k10c1 : Code := { maxStack := 6, maxLocals := 3, code := prog_44_method_3_code, exceptionTable := #[], attributes := #[] }
def k10m1 : Method := { name := "requirePositive", desc := "(Ljava/lang/String;D)V", sig := { parameters := [(.object "java/lang/String"), .double], returnType := none }, accessFlags := 8, code := some k10c1 }
def k10c2 : Code := { maxStack := 5, maxLocals := 4, code := prog_44_method_4_code, exceptionTable := #[], attributes := #[] }
def k10m2 : Method := { name := "require", desc := "(Ljava/lang/String;Ljava/lang/Object;ZLjava/lang/String;)V", sig := { parameters := [(.object "java/lang/String"), (.object "java/lang/Object"), .boolean, (.object "java/lang/String")], returnType := none }, accessFlags := 8, code := some k10c2 }
/-- com/example/buurt/buurt/model/Parameters -/
def k10 : Class := { plain "com/example/buurt/buurt/model/Parameters" (some 0) with
  accessFlags := 48
  interfaces := #[]
  cf := some (fileOf pool10 16 #[] #[{ accessFlags := 2, nameIndex := 5, descriptorIndex := 6, attributes := #[] }, { accessFlags := 8, nameIndex := 44, descriptorIndex := 42, attributes := #[] }, { accessFlags := 8, nameIndex := 19, descriptorIndex := 20, attributes := #[] }] 48 2 #[] #[])
  fields := #[]
  methods := #[k10m0, k10m1, k10m2]
  instanceTypes := #[]
  staticTypes := #[]
  resolved := Array.replicate 62 none
  statics := none }

def pool11 : Array CpInfo := pool [(1, .methodref 2 3), (0, .class_ 4), (0, .nameAndType 5 6), (0, u "java/lang/Object"), (0, u "<init>"), (0, u "()V"), (1, .class_ 10), (1, u "java/lang/Number"), (2, .class_ 14), (0, u "java/io/Serializable"), (0, u "serialVersionUID"), (0, u "J")] 20

def k11c0 : Code := { maxStack := 1, maxLocals := 1, code := jdk_18_method_1_code, exceptionTable := #[], attributes := #[] }
def k11m0 : Method := { name := "<init>", desc := "()V", sig := { parameters := [], returnType := none }, accessFlags := 1, code := some k11c0 }
/-- java/lang/Number -/
def k11 : Class := { plain "java/lang/Number" (some 0) with
  accessFlags := 1057
  interfaces := #[4]
  cf := some (fileOf pool11 8 #[] #[{ accessFlags := 1, nameIndex := 5, descriptorIndex := 6, attributes := #[] }] 1057 2 #[13] #[{ accessFlags := 26, nameIndex := 15, descriptorIndex := 16, attributes := #[] }])
  fields := #[{ name := "serialVersionUID", type := .long, accessFlags := 26, slot := 0, constantValue := 0 }]
  methods := #[k11m0]
  instanceTypes := #[]
  staticTypes := #[.long]
  resolved := Array.replicate 37 none
  statics := none }

def pool12 : Array CpInfo := pool [(1, .class_ 2), (0, u "java/lang/Double"), (17, u "<init>"), (84, .methodref 1 106), (0, .nameAndType 20 107), (0, u "(D)V"), (5, .methodref 114 115), (0, .class_ 116), (0, .nameAndType 20 117), (0, u "java/lang/Number"), (0, u "()V"), (0, .fieldref 1 119), (0, .nameAndType 120 121), (0, u "value"), (0, u "D"), (51, u "TYPE"), (0, u "Ljava/lang/Class;"), (0, .class_ 176), (0, u "java/lang/Comparable"), (0, .class_ 178), (0, u "java/lang/constant/Constable"), (0, .class_ 180), (0, u "java/lang/constant/ConstantDesc"), (0, u "POSITIVE_INFINITY"), (3, u "NEGATIVE_INFINITY"), (2, u "NaN"), (2, u "MAX_VALUE"), (0, u "MIN_NORMAL"), (0, u "MIN_VALUE"), (2, u "SIZE"), (0, u "I"), (1, u "PRECISION"), (1, u "MAX_EXPONENT"), (1, u "MIN_EXPONENT"), (1, u "BYTES"), (3, u "serialVersionUID"), (0, u "J"), (14, u "valueOf"), (5, u "(D)Ljava/lang/Double;")] 58

def k12c0 : Code := { maxStack := 4, maxLocals := 2, code := jdk_117_method_4_code, exceptionTable := #[], attributes := #[] }
def k12m0 : Method := { name := "valueOf", desc := "(D)Ljava/lang/Double;", sig := { parameters := [.double], returnType := some (.object "java/lang/Double") }, accessFlags := 9, code := some k12c0 }
def k12c1 : Code := { maxStack := 3, maxLocals := 3, code := jdk_117_method_9_code, exceptionTable := #[], attributes := #[] }
def k12m1 : Method := { name := "<init>", desc := "(D)V", sig := { parameters := [.double], returnType := none }, accessFlags := 1, code := some k12c1 }
/-- java/lang/Double -/
def k12 : Class := { plain "java/lang/Double" (some 11) with
  accessFlags := 49
  interfaces := #[5, 7, 8]
  cf := some (fileOf pool12 1 #[] #[{ accessFlags := 9, nameIndex := 225, descriptorIndex := 231, attributes := #[] }, { accessFlags := 1, nameIndex := 20, descriptorIndex := 107, attributes := #[] }] 49 114 #[175, 177, 179] #[{ accessFlags := 25, nameIndex := 181, descriptorIndex := 121, attributes := #[] }, { accessFlags := 25, nameIndex := 185, descriptorIndex := 121, attributes := #[] }, { accessFlags := 25, nameIndex := 188, descriptorIndex := 121, attributes := #[] }, { accessFlags := 25, nameIndex := 191, descriptorIndex := 121, attributes := #[] }, { accessFlags := 25, nameIndex := 192, descriptorIndex := 121, attributes := #[] }, { accessFlags := 25, nameIndex := 193, descriptorIndex := 121, attributes := #[] }, { accessFlags := 25, nameIndex := 196, descriptorIndex := 197, attributes := #[] }, { accessFlags := 25, nameIndex := 199, descriptorIndex := 197, attributes := #[] }, { accessFlags := 25, nameIndex := 201, descriptorIndex := 197, attributes := #[] }, { accessFlags := 25, nameIndex := 203, descriptorIndex := 197, attributes := #[] }, { accessFlags := 25, nameIndex := 205, descriptorIndex := 197, attributes := #[] }, { accessFlags := 25, nameIndex := 173, descriptorIndex := 174, attributes := #[] }, { accessFlags := 18, nameIndex := 120, descriptorIndex := 121, attributes := #[] }, { accessFlags := 26, nameIndex := 209, descriptorIndex := 210, attributes := #[] }])
  fields := #[{ name := "POSITIVE_INFINITY", type := .double, accessFlags := 25, slot := 0, constantValue := 0 }, { name := "NEGATIVE_INFINITY", type := .double, accessFlags := 25, slot := 1, constantValue := 0 }, { name := "NaN", type := .double, accessFlags := 25, slot := 2, constantValue := 0 }, { name := "MAX_VALUE", type := .double, accessFlags := 25, slot := 3, constantValue := 0 }, { name := "MIN_NORMAL", type := .double, accessFlags := 25, slot := 4, constantValue := 0 }, { name := "MIN_VALUE", type := .double, accessFlags := 25, slot := 5, constantValue := 0 }, { name := "SIZE", type := .int, accessFlags := 25, slot := 6, constantValue := 0 }, { name := "PRECISION", type := .int, accessFlags := 25, slot := 7, constantValue := 0 }, { name := "MAX_EXPONENT", type := .int, accessFlags := 25, slot := 8, constantValue := 0 }, { name := "MIN_EXPONENT", type := .int, accessFlags := 25, slot := 9, constantValue := 0 }, { name := "BYTES", type := .int, accessFlags := 25, slot := 10, constantValue := 0 }, { name := "TYPE", type := (.object "java/lang/Class"), accessFlags := 25, slot := 11, constantValue := 0 }, { name := "value", type := .double, accessFlags := 18, slot := 0, constantValue := 0 }, { name := "serialVersionUID", type := .long, accessFlags := 26, slot := 12, constantValue := 0 }]
  methods := #[k12m0, k12m1]
  instanceTypes := #[.double]
  staticTypes := #[.double, .double, .double, .double, .double, .double, .int, .int, .int, .int, .int, (.object "java/lang/Class"), .long]
  resolved := Array.replicate 290 none
  statics := none }

def pool13 : Array CpInfo := pool [(1, u "java/lang/Cloneable"), (0, .class_ 1), (0, u "java/lang/Object"), (0, .class_ 3)] 3

/-- java/lang/Cloneable -/
def k13 : Class := { plain "java/lang/Cloneable" (some 0) with
  accessFlags := 1537
  interfaces := #[]
  cf := some (fileOf pool13 2 #[] #[] 1537 4 #[] #[])
  fields := #[]
  methods := #[]
  instanceTypes := #[]
  staticTypes := #[]
  resolved := Array.replicate 8 none
  statics := none }

/-- the primitive byte -/
def k14 : Class := { plain "byte" none with kind := .primitive 'B', accessFlags := 0x411 }
/-- [B -/
def k15 : Class := { plain "[B" (some 0) with kind := .array 14 .byte, interfaces := #[13, 4], accessFlags := 1041 }

/-- the primitive int -/
def k16 : Class := { plain "int" none with kind := .primitive 'I', accessFlags := 0x411 }
/-- [I -/
def k17 : Class := { plain "[I" (some 0) with kind := .array 16 .int, interfaces := #[13, 4], accessFlags := 1041 }

def heap : Heap := #[]
def classes : Array Class := #[k0, k1, k2, k3, k4, k5, k6, k7, k8, k9, k10, k11, k12, k13, k14, k15, k16, k17]
def interned : List (Array UInt16 × Addr) := []
def slotsUsed : Nat := 0
def theMethod : MethodId := ⟨1, 1⟩
def args0 : Array Value := #[.int 5, .int 6, .int 7, .int 8, .int 9]
def aboutOver (below : List Frame) : State where
  vm := { classes := classes, interned := interned.toArray }
  heap := heap
  slotsUsed := slotsUsed
  threads := #[{ frames := .invoking theMethod args0 :: below }]
def below0 : List Frame := [.native { method := ⟨0, 0⟩, args := #[] }]
def about1 : State := aboutOver below0
def p0 : Program := .bare "" "" ""
def e0 : Env := launch0.env 0 0 0
theorem w_frames : about1.frames = Frame.invoking theMethod args0 :: below0 := rfl
set_option maxRecDepth 65536 in
theorem w_args : argsFit about1.vm theMethod args0 = true := by decide +kernel
set_option maxRecDepth 65536 in
theorem w_heap : heapFits about1 = true := by decide +kernel
set_option maxRecDepth 65536 in
theorem w_runnable : about1.curStatus? = some .runnable := by decide +kernel
set_option maxRecDepth 65536 in
theorem w_alone : about1.alone = true := by decide +kernel
set_option maxRecDepth 65536 in
theorem w_named : about1.methodNamed? x = some theMethod := by decide +kernel
set_option maxRecDepth 65536 in
theorem w_hears : about1.hears theMethod below0 = true := by decide +kernel
set_option maxRecDepth 65536 in
theorem w_ripe : about1.ripe theMethod args0 below0 = true := by decide +kernel
theorem w_running : about1.status = .running := rfl
set_option maxRecDepth 65536 in
theorem w_room : about1.hasRoom e0.platform room_1 = true :=
  launch0.hasRoom_least _ room_1 (by decide +kernel) (by decide +kernel) (by decide +kernel) (by decide +kernel) (by decide +kernel) (by decide +kernel)
theorem allAtoms_all (ts : List Jvm.Cond) (a : Array Jvm.Value) (st : Jvm.State) : (allAtoms ts).before a st = ts.all (fun c => c.before a st) := by
  induction ts with
  | nil => rfl
  | cons c t ih =>
    show (Jvm.Cond.and c (allAtoms t)).before a st = _
    rw [Jvm.Cond.before_and, ih, List.all_cons]
def words1 : List Jvm.Cond := Jvm.Cond.code x code maxLocals ret :: tables_1
/-- a 'code' word, met by the world's own term for the bytes: nothing is compared byte by byte -/
theorem code_word {y : MethodName} {bytes : ByteArray} {mx : Nat} {rt : Option FieldType} {a : Array Value} {s : State} {m : MethodId} {meth : Method} {c : Code} (h1 : s.methodNamed? y = some m) (h2 : s.vm.method? m = some meth) (h3 : meth.code = some c) (h4 : c.code = bytes)
    (h5 : (c.maxLocals == mx && c.exceptionTable.isEmpty && decide (c.maxStack ≤ mostOperands) && decide (meth.sig.returnType = rt) && !meth.locks && decide (parseMethodDescriptor y.desc = some meth.sig)) = true) : (Jvm.Cond.code y bytes mx rt).before a s = true := by
  simp only [Bool.and_eq_true, beq_iff_eq, Bool.not_eq_true', decide_eq_true_eq] at h5
  obtain ⟨⟨⟨⟨⟨g1, g2⟩, g3⟩, g4⟩, g5⟩, g6⟩ := h5
  simp [Cond.before, Cond.holds, Cond.value, h1, h2, h3, h4, g1, g2, g3, g4, g5, g6]
def isCode : Jvm.Cond → Bool
  | .code _ _ _ _ => true
  | _ => false
theorem all_split {L : List Jvm.Cond} {P : Jvm.Cond → Bool} (h1 : L.all (fun c => isCode c || P c) = true) (h2 : ∀ c ∈ L.filter isCode, P c = true) : L.all P = true := by
  refine List.all_eq_true.mpr fun c hc => ?_
  have h := List.all_eq_true.mp h1 c hc
  rcases Bool.eq_false_or_eq_true (isCode c) with hi | hi
  · exact h2 c (List.mem_filter.mpr ⟨hc, hi⟩)
  · simpa [hi] using h
set_option maxRecDepth 65536 in
theorem w_c0 : (Jvm.Cond.code x code maxLocals ret).before args0 about1 = true := code_word (m := ⟨1, 1⟩) (meth := k1m1) (c := k1c1) (by decide +kernel) rfl rfl rfl (by decide +kernel)
set_option maxRecDepth 65536 in
theorem w_c1 : (Jvm.Cond.code ({ cls := "com/example/buurt/buurt/model/Dirichlet", name := "<init>", desc := "(D)V" } : Jvm.MethodName) prog_28_method_1_code (3 : Nat) (Option.none : Option Jvm.ClassFile.FieldType)).before args0 about1 = true := code_word (m := ⟨3, 0⟩) (meth := k3m0) (c := k3c0) (by decide +kernel) rfl rfl rfl (by decide +kernel)
set_option maxRecDepth 65536 in
theorem w_c2 : (Jvm.Cond.code ({ cls := "java/lang/Record", name := "<init>", desc := "()V" } : Jvm.MethodName) jdk_30_method_1_code (1 : Nat) (Option.none : Option Jvm.ClassFile.FieldType)).before args0 about1 = true := code_word (m := ⟨2, 0⟩) (meth := k2m0) (c := k2c0) (by decide +kernel) rfl rfl rfl (by decide +kernel)
set_option maxRecDepth 65536 in
theorem w_c3 : (Jvm.Cond.code ({ cls := "java/lang/Object", name := "<init>", desc := "()V" } : Jvm.MethodName) object_method_1_code (1 : Nat) (Option.none : Option Jvm.ClassFile.FieldType)).before args0 about1 = true := code_word (m := ⟨0, 0⟩) (meth := k0m0) (c := k0c0) (by decide +kernel) rfl rfl rfl (by decide +kernel)
set_option maxRecDepth 65536 in
theorem w_c4 : (Jvm.Cond.code ({ cls := "com/example/buurt/buurt/model/Parameters", name := "requirePositive", desc := "(Ljava/lang/String;D)V" } : Jvm.MethodName) prog_44_method_3_code (3 : Nat) (Option.none : Option Jvm.ClassFile.FieldType)).before args0 about1 = true := code_word (m := ⟨10, 1⟩) (meth := k10m1) (c := k10c1) (by decide +kernel) rfl rfl rfl (by decide +kernel)
set_option maxRecDepth 65536 in
theorem w_c5 : (Jvm.Cond.code ({ cls := "java/lang/Double", name := "valueOf", desc := "(D)Ljava/lang/Double;" } : Jvm.MethodName) jdk_117_method_4_code (2 : Nat) (Option.some (Jvm.ClassFile.FieldType.object "java/lang/Double"))).before args0 about1 = true := code_word (m := ⟨12, 0⟩) (meth := k12m0) (c := k12c0) (by decide +kernel) rfl rfl rfl (by decide +kernel)
set_option maxRecDepth 65536 in
theorem w_c6 : (Jvm.Cond.code ({ cls := "java/lang/Double", name := "<init>", desc := "(D)V" } : Jvm.MethodName) jdk_117_method_9_code (3 : Nat) (Option.none : Option Jvm.ClassFile.FieldType)).before args0 about1 = true := code_word (m := ⟨12, 1⟩) (meth := k12m1) (c := k12c1) (by decide +kernel) rfl rfl rfl (by decide +kernel)
set_option maxRecDepth 65536 in
theorem w_c7 : (Jvm.Cond.code ({ cls := "java/lang/Number", name := "<init>", desc := "()V" } : Jvm.MethodName) jdk_18_method_1_code (1 : Nat) (Option.none : Option Jvm.ClassFile.FieldType)).before args0 about1 = true := code_word (m := ⟨11, 0⟩) (meth := k11m0) (c := k11c0) (by decide +kernel) rfl rfl rfl (by decide +kernel)
set_option maxRecDepth 65536 in
theorem w_c8 : (Jvm.Cond.code ({ cls := "com/example/buurt/buurt/model/Parameters", name := "require", desc := "(Ljava/lang/String;Ljava/lang/Object;ZLjava/lang/String;)V" } : Jvm.MethodName) prog_44_method_4_code (4 : Nat) (Option.none : Option Jvm.ClassFile.FieldType)).before args0 about1 = true := code_word (m := ⟨10, 2⟩) (meth := k10m2) (c := k10c2) (by decide +kernel) rfl rfl rfl (by decide +kernel)
set_option maxRecDepth 65536 in
theorem w_c9 : (Jvm.Cond.code ({ cls := "com/example/buurt/buurt/model/Dirichlet", name := "probability", desc := "(DDDD)D" } : Jvm.MethodName) prog_28_method_2_code (9 : Nat) (Option.some Jvm.ClassFile.FieldType.double)).before args0 about1 = true := code_word (m := ⟨3, 1⟩) (meth := k3m1) (c := k3c1) (by decide +kernel) rfl rfl rfl (by decide +kernel)
def codes1 : List Jvm.Cond := [Jvm.Cond.code x code maxLocals ret, Jvm.Cond.code ({ cls := "com/example/buurt/buurt/model/Dirichlet", name := "<init>", desc := "(D)V" } : Jvm.MethodName) prog_28_method_1_code (3 : Nat) (Option.none : Option Jvm.ClassFile.FieldType), Jvm.Cond.code ({ cls := "java/lang/Record", name := "<init>", desc := "()V" } : Jvm.MethodName) jdk_30_method_1_code (1 : Nat) (Option.none : Option Jvm.ClassFile.FieldType), Jvm.Cond.code ({ cls := "java/lang/Object", name := "<init>", desc := "()V" } : Jvm.MethodName) object_method_1_code (1 : Nat) (Option.none : Option Jvm.ClassFile.FieldType), Jvm.Cond.code ({ cls := "com/example/buurt/buurt/model/Parameters", name := "requirePositive", desc := "(Ljava/lang/String;D)V" } : Jvm.MethodName) prog_44_method_3_code (3 : Nat) (Option.none : Option Jvm.ClassFile.FieldType), Jvm.Cond.code ({ cls := "java/lang/Double", name := "valueOf", desc := "(D)Ljava/lang/Double;" } : Jvm.MethodName) jdk_117_method_4_code (2 : Nat) (Option.some (Jvm.ClassFile.FieldType.object "java/lang/Double")), Jvm.Cond.code ({ cls := "java/lang/Double", name := "<init>", desc := "(D)V" } : Jvm.MethodName) jdk_117_method_9_code (3 : Nat) (Option.none : Option Jvm.ClassFile.FieldType), Jvm.Cond.code ({ cls := "java/lang/Number", name := "<init>", desc := "()V" } : Jvm.MethodName) jdk_18_method_1_code (1 : Nat) (Option.none : Option Jvm.ClassFile.FieldType), Jvm.Cond.code ({ cls := "com/example/buurt/buurt/model/Parameters", name := "require", desc := "(Ljava/lang/String;Ljava/lang/Object;ZLjava/lang/String;)V" } : Jvm.MethodName) prog_44_method_4_code (4 : Nat) (Option.none : Option Jvm.ClassFile.FieldType), Jvm.Cond.code ({ cls := "com/example/buurt/buurt/model/Dirichlet", name := "probability", desc := "(DDDD)D" } : Jvm.MethodName) prog_28_method_2_code (9 : Nat) (Option.some Jvm.ClassFile.FieldType.double)]
set_option maxRecDepth 65536 in
theorem codes_eq : words1.filter isCode = codes1 := rfl
theorem w_codes : ∀ c ∈ words1.filter isCode, c.before args0 about1 = true := by
  rw [codes_eq]
  intro c hc
  simp only [codes1, List.mem_cons, List.not_mem_nil, or_false] at hc
  rcases hc with rfl | rfl | rfl | rfl | rfl | rfl | rfl | rfl | rfl | rfl
  · exact w_c0
  · exact w_c1
  · exact w_c2
  · exact w_c3
  · exact w_c4
  · exact w_c5
  · exact w_c6
  · exact w_c7
  · exact w_c8
  · exact w_c9
set_option maxRecDepth 65536 in
theorem w_t1 : (words1.take 24).all (fun c => isCode c || c.before args0 about1) = true := by decide +kernel
set_option maxRecDepth 65536 in
theorem w_t2 : ((words1.drop 24).take 24).all (fun c => isCode c || c.before args0 about1) = true := by decide +kernel
set_option maxRecDepth 65536 in
theorem w_t3 : ((words1.drop 24).drop 24).all (fun c => isCode c || c.before args0 about1) = true := by decide +kernel
theorem w_tables : (allAtoms (Jvm.Cond.code x code maxLocals ret :: tables_1)).before args0 about1 = true := by
  rw [allAtoms_all]
  show words1.all (fun c => c.before args0 about1) = true
  refine all_split ?_ w_codes
  rw [← List.take_append_drop 24 words1, List.all_append, w_t1, ← List.take_append_drop 24 (words1.drop 24), List.all_append, w_t2, w_t3]
  rfl
set_option maxRecDepth 65536 in
theorem w_case : (Jvm.Cond.and given_1 narrow_1).before args0 about1 = true := by decide +kernel
theorem w_applies : (headSpec (Jvm.Cond.code x code maxLocals ret :: tables_1) room_1).applies x e0.platform about1 = true :=
  (Spec.applies_iff w_frames).mpr ⟨w_running, w_runnable, w_alone, w_named, w_hears, w_ripe, w_room, w_tables⟩
theorem atStart : AtStart classFile x code maxLocals ret World_1 tables_1 room_1 Calls_1 rest_1 Pre_1 launch0 p0 e0 about1 theMethod args0 below0 :=
  ⟨lists_1, trivial, launch0.admits_env _ _ _, launch0.least_env, fairChoices_fair.cas, fairChoices_fair.clock, w_frames, w_args, w_heap, w_applies, trivial, trivial, w_case⟩
end start1
theorem witness_1 : WitnessClaimed_1 := ⟨start1.p0, start1.e0, start1.about1, start1.theMethod, start1.args0, start1.below0, start1.atStart⟩
end Jvm.Pilot.@@N@@
