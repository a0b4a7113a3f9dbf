import JvmDerived
import JvmDerived.Pilot.@@N@@Statement
import JvmDerived.Pilot.@@N@@Code
set_option linter.unusedVariables false
set_option linter.unusedSimpArgs false
namespace Jvm.Pilot.@@N@@
open Jvm Jvm.ClassFile Sem Op Lib Jvm.Free Jvm.Stand Jvm.LawKit Jvm.RoadKit Bundle Jvm.Free.Fl Jvm.Pilot.@@N@@.Jvm.D
theorem own_w {a0 : Array Value} {Z : State} (hw : ∀ d ∈ tables_1, d.before a0 Z = true) (i : Nat) {d : Jvm.Cond} (h : tables_1[i]? = some d) : d.before a0 Z = true := hw _ (List.mem_of_getElem? h)
abbrev own_S (p : Program) (e : Env) (below : List Frame) (T : State) (m : MethodId) (pc : Nat) (Ls : Array Slot) (st : List Value) (t : State) : Prop := Steps p.tables e below (T.setTop (mkF m pc Ls st)) t
abbrev oI (x : Int32) : Slot := .val (.int x)
abbrev oJ (x : Int64) : Slot := .val (.long x)
abbrev oD (x : UInt64) : Slot := .val (.double x)
abbrev oR (x : Addr) : Slot := .val (.ref x)
abbrev oU : Slot := .unset
abbrev oV : Slot := .second
section Re
variable {tb : Tables} {e : Env} {below : List Frame} {T target : State} {m : MethodId} {pc : Nat} {Ls : Array Slot} {rest : List Value}
theorem reI {x y : Int32} (h : x = y) (k : Steps tb e below (T.setTop (mkF m pc Ls (.int y :: rest))) target) : Steps tb e below (T.setTop (mkF m pc Ls (.int x :: rest))) target := by rw [h]; exact k
theorem reJ {x y : Int64} (h : x = y) (k : Steps tb e below (T.setTop (mkF m pc Ls (.long y :: rest))) target) : Steps tb e below (T.setTop (mkF m pc Ls (.long x :: rest))) target := by rw [h]; exact k
theorem reD {x y : UInt64} (h : x = y) (k : Steps tb e below (T.setTop (mkF m pc Ls (.double y :: rest))) target) : Steps tb e below (T.setTop (mkF m pc Ls (.double x :: rest))) target := by rw [h]; exact k
theorem re2I {v : Value} {x y : Int32} (h : x = y) (k : Steps tb e below (T.setTop (mkF m pc Ls (v :: .int y :: rest))) target) : Steps tb e below (T.setTop (mkF m pc Ls (v :: .int x :: rest))) target := by rw [h]; exact k
theorem own_nnl {e v : UInt64} (h : e = v) (hv : NoNaN64 v) : NoNaN64 e := h ▸ hv
end Re
section OwnFloat
open Jvm.FP
/-- finite, and worth z units of 2^-1074 -/
def own_At (a : UInt64) (z : Int) : Prop := ∃ s c q, Core.val64 a = .fin s c q ∧ Core.signed s (Core.inUnits c q (-1074)) = z
/-- a magnitude that a double has exactly -/
def own_Rep (n : Nat) : Prop := ∃ m e : Nat, n = m * 2 ^ e ∧ m < 2 ^ 53 ∧ e ≤ 2045
theorem own_shift {A C a b a' b' : Nat} (h : A * 2 ^ a = C * 2 ^ b) (hab : a + b' = a' + b) : A * 2 ^ a' = C * 2 ^ b' := by
  have h1 : A * 2 ^ a' * 2 ^ b = C * 2 ^ b' * 2 ^ b := by
    calc A * 2 ^ a' * 2 ^ b = A * (2 ^ a' * 2 ^ b) := Nat.mul_assoc _ _ _
      _ = A * 2 ^ (a' + b) := by rw [Nat.pow_add]
      _ = A * 2 ^ (a + b') := by rw [hab]
      _ = A * 2 ^ a * 2 ^ b' := by rw [Nat.pow_add, Nat.mul_assoc]
      _ = C * 2 ^ b * 2 ^ b' := by rw [h]
      _ = C * 2 ^ b' * 2 ^ b := by rw [Nat.mul_assoc, Nat.mul_comm (2 ^ b), Nat.mul_assoc]
  exact Nat.eq_of_mul_eq_mul_right (Nat.two_pow_pos b) h1
theorem own_fit (s : Bool) {n : Nat} (h : own_Rep n) : ∃ c q, Core.fits Core.b64 (.fin s c q) ∧ Core.inUnits c q (-1074) = n := by
  obtain ⟨m, e, rfl, hm, he⟩ := h
  have h1 : Core.b64.qmin ≤ -1074 + (e : Int) := by rw [Core.qmin_b64]; omega
  have h2 : -1074 + (e : Int) ≤ Core.b64.qmax := by rw [show Core.b64.qmax = 971 by decide +kernel]; omega
  obtain ⟨c, q, hr, hu⟩ := Core.round_exact Core.good_b64 s (c := m) (q := -1074 + (e : Int)) hm h1 h2
  refine ⟨c, q, ?_, ?_⟩
  · rw [← hr]; exact Core.round_fits Core.good_b64 _
  · rw [Core.qmin_b64] at hu
    rw [hu]
    show m * 2 ^ (-1074 + (e : Int) - -1074).toNat = m * 2 ^ e
    congr 2
    omega
/-- rounding a ratio that a double has exactly -/
theorem own_rr {s : Bool} {A B n : Nat} {e : Int} (hB : 0 < B) (hn : own_Rep n) (h : A * 2 ^ (e + 1074).toNat = n * B * 2 ^ (-(e + 1074)).toNat) :
    ∃ c q, Core.roundRatio Core.b64 s A B e = .fin s c q ∧ Core.inUnits c q (-1074) = n := by
  obtain ⟨c, q, hf, hu⟩ := own_fit s hn
  refine ⟨c, q, Core.roundRatio_exact Core.good_b64 hB hf ?_, hu⟩
  have hq : -1074 ≤ q := by have := hf.2.1; rw [Core.qmin_b64] at this; exact this
  rw [← hu] at h
  unfold Core.inUnits at h
  have h' : A * 2 ^ (e + 1074).toNat = (c * B) * 2 ^ ((q - -1074).toNat + (-(e + 1074)).toNat) := by
    rw [h, Nat.pow_add]; simp only [Nat.mul_assoc, Nat.mul_left_comm, Nat.mul_comm]
  exact own_shift h' (by omega)
theorem own_at_fin {a : UInt64} {z : Int} (h : own_At a z) : Fin64 a := by
  obtain ⟨s, c, q, h, -⟩ := h
  exact fin64_core.mpr ⟨s, c, q, h⟩
theorem own_at_nn {a : UInt64} {z : Int} (h : own_At a z) : NoNaN64 a := (own_at_fin h).noNaN
theorem own_at_val {a : UInt64} {z : Int} (h : own_At a z) : Core.val64 a ≠ .nan ∧ Core.zval Core.b64 (Core.val64 a) = z := by
  obtain ⟨s, c, q, h, hz⟩ := h
  rw [h]
  refine ⟨nofun, ?_⟩
  show Core.signed s (Core.inUnits c q Core.b64.qmin) = z
  rw [Core.qmin_b64]; exact hz
theorem own_cmp {a b : UInt64} {x y : Int} (ha : own_At a x) (hb : own_At b y) : FP.dcmp a b = some (compare x y) := by
  have h1 := own_at_val ha; have h2 := own_at_val hb
  rw [← h1.2, ← h2.2]; exact Core.dcmp_zval h1.1 h2.1
theorem own_cmpV {a b : UInt64} {x y : Int} (ha : own_At a x) (hb : own_At b y) (o : CmpOp) : cmpValue (FP.dcmp a b) o = if x < y then -1 else if x = y then 0 else 1 := by
  rw [own_cmp ha hb]
  rcases Int.lt_trichotomy x y with h | h | h
  · rw [if_pos h, show compare x y = .lt from by simp [compare, compareOfLessAndEq, h]]; cases o <;> rfl
  · rw [if_neg (by omega), if_pos h, show compare x y = .eq from by subst h; simp [compare, compareOfLessAndEq]]; cases o <;> rfl
  · rw [if_neg (by omega), if_neg (by omega), show compare x y = .gt from by simp [compare, compareOfLessAndEq, show ¬ x < y by omega, show ¬ x = y by omega]]; cases o <;> rfl
theorem own_eqV {a b : UInt64} {x y : Int} (ha : own_At a x) (hb : own_At b y) (h : x = y) (o : CmpOp) : cmpValue (FP.dcmp a b) o = 0 := by
  rw [own_cmpV ha hb, if_neg (by omega), if_pos h]
theorem own_int {i : Int} {a : UInt64} (h : Core.DInt i a) : own_At a (i * (Core.one64 : Int)) := by
  have hz := Core.DInt_zval h
  unfold Core.DInt at h
  cases e : Core.val64 a with
  | nan => rw [e] at h; exact h.elim
  | inf s => rw [e] at h; exact h.elim
  | fin s c q =>
    refine ⟨s, c, q, e, ?_⟩
    rw [e] at hz
    rw [← hz]
    show _ = Core.signed s (Core.inUnits c q Core.b64.qmin)
    rw [Core.qmin_b64]
theorem own_zv {s : Bool} {c : Nat} {q x : Int} (h : Core.signed s (Core.inUnits c q (-1074)) = x) : Core.zval Core.b64 (.fin s c q) = x := by
  show Core.signed s (Core.inUnits c q Core.b64.qmin) = x
  rw [Core.qmin_b64]; exact h
theorem own_sg {s : Bool} {k : Nat} {z : Int} (h : Core.signed s k = z) : Core.signed s z.natAbs = z := by rw [← h, Core.natAbs_signed]
theorem own_sum {a b : UInt64} {x y : Int} (ha : own_At a x) (hb : own_At b y) (hr : own_Rep (x + y).natAbs) : own_At (FP.dadd a b) (x + y) := by
  obtain ⟨s, c, q, ea, hx⟩ := ha
  obtain ⟨t, d, r, eb, hy⟩ := hb
  have fa := Core.val64_fits a; rw [ea] at fa
  have fb := Core.val64_fits b; rw [eb] at fb
  obtain ⟨sg, n, e, he, hq, hs⟩ := Core.sum_units fa fb
  rw [own_zv hx, own_zv hy, Core.qmin_b64] at hs
  rw [Core.qmin_b64] at hq
  have hn : n * 2 ^ (e + 1074).toNat = (x + y).natAbs := by
    rw [← hs, Core.natAbs_signed]; unfold Core.inUnits; congr 2
  obtain ⟨c', q', hr', hu⟩ := own_rr (s := sg) (A := n) (B := 1) (e := e) (by decide) hr (by rw [hn, show (-(e + 1074)).toNat = 0 by omega]; simp)
  refine ⟨sg, c', q', ?_, ?_⟩
  · show Core.val64 (Core.dadd a b) = _
    rw [Core.val64_dadd, ea, eb, he]; exact hr'
  · rw [hu]; exact own_sg hs
theorem own_mul {a b : UInt64} {x y z : Int} (ha : own_At a x) (hb : own_At b y) (hz : x * y = z * (Core.one64 : Int)) (hr : own_Rep z.natAbs) : own_At (FP.dmul a b) z := by
  obtain ⟨s, c, q, ea, hx⟩ := ha
  obtain ⟨t, d, r, eb, hy⟩ := hb
  have fa := Core.val64_fits a; rw [ea] at fa
  have fb := Core.val64_fits b; rw [eb] at fb
  obtain ⟨he, hq, hu⟩ := Core.product_units fa fb
  rw [Core.qmin_b64] at hq hu
  have hX : Core.zmag Core.b64 (.fin s c q) = x.natAbs := by
    rw [← hx, Core.natAbs_signed]; show Core.inUnits c q Core.b64.qmin = _; rw [Core.qmin_b64]
  have hY : Core.zmag Core.b64 (.fin t d r) = y.natAbs := by
    rw [← hy, Core.natAbs_signed]; show Core.inUnits d r Core.b64.qmin = _; rw [Core.qmin_b64]
  have hN : x.natAbs * y.natAbs = z.natAbs * 2 ^ 1074 := by
    have := congrArg Int.natAbs hz
    rw [Int.natAbs_mul, Int.natAbs_mul, Int.natAbs_natCast] at this
    exact this
  rw [hX, hY, hN] at hu
  have hu' : c * d * 2 ^ (q + r + 2148).toNat = z.natAbs * 2 ^ 1074 := by
    rw [← hu]; unfold Core.inUnits; congr 2
  obtain ⟨c', q', hr', hw⟩ := own_rr (s := s != t) (A := c * d) (B := 1) (e := q + r) (by decide) hr (by rw [Nat.mul_one]; exact own_shift hu' (by omega))
  refine ⟨s != t, c', q', ?_, ?_⟩
  · show Core.val64 (Core.dmul a b) = _
    rw [Core.val64_dmul, ea, eb, he]; exact hr'
  · rw [hw]
    have p : (Core.one64 : Int) ≠ 0 := by have := Core.one64_pos; omega
    refine Int.eq_of_mul_eq_mul_right p ?_
    rw [← hz, ← Core.signed_mul, show z.natAbs * Core.one64 = x.natAbs * y.natAbs from hN.symm, Core.signed_xor, own_sg hx, own_sg hy]
end OwnFloat
section OwnInt
theorem own_maskI {x m : Int32} {k : Nat} (hk : k ≤ 31) (hm : m.toBitVec.toNat = 2 ^ k - 1) : 0 ≤ (x &&& m).toInt ∧ (x &&& m).toInt < ((2 ^ k : Nat) : Int) := by
  rw [c_mask x m k hk hm]
  have p : (0 : Int) < ((2 ^ k : Nat) : Int) := by have := Nat.two_pow_pos k; omega
  exact ⟨Int.emod_nonneg _ (by omega), Int.emod_lt_of_pos _ p⟩
theorem own_cases32 {x : Int32} {n : Nat} (h0 : 0 ≤ x.toInt) (h1 : x.toInt < (n : Int)) : ∃ k : Nat, k < n ∧ x = Int32.ofNat k := by
  refine ⟨x.toInt.toNat, by omega, ?_⟩
  apply Int32.toInt_inj.mp
  have hx := x.toInt_lt
  rw [Int32.toInt_ofNat_of_lt (by omega)]
  omega
end OwnInt
section OwnScale
open Jvm.FP
theorem own_U (j : Nat) (h : j ≤ 1074) : (Core.one64 : Int) = 2 ^ (1074 - j) * 2 ^ j := by
  unfold Core.one64
  rw [← Int.pow_add, Nat.sub_add_cancel h]; simp
end OwnScale
section OwnDy
open Jvm.FP
/-- the double a is n / 2^j -/
def own_Dy (n : Int) (j : Nat) (a : UInt64) : Prop := own_At a (n * 2 ^ (1074 - j))
theorem own_one : (Core.one64 : Int) = 2 ^ 1074 := by rw [own_U 0 (by omega), Nat.sub_zero, Int.pow_zero, Int.mul_one]
theorem own_pw {a b c d : Nat} (h : a + b = c + d) : (2 : Int) ^ a * 2 ^ b = 2 ^ c * 2 ^ d := by rw [← Int.pow_add, ← Int.pow_add, h]
theorem own_dy_int {n : Int} {a : UInt64} (h : Core.DInt n a) : own_Dy n 0 a := by
  have q := own_int h
  rw [own_one] at q
  exact q
theorem own_dy_rep {n : Int} {j : Nat} (h : n.natAbs < 2 ^ 53) : own_Rep (n * 2 ^ (1074 - j)).natAbs :=
  ⟨n.natAbs, 1074 - j, by rw [Int.natAbs_mul, Int.natAbs_pow]; rfl, h, by omega⟩
theorem own_dy_nn {n : Int} {j : Nat} {a : UInt64} (h : own_Dy n j a) : NoNaN64 a := own_at_nn h
theorem own_dy_add {n m : Int} {j : Nat} {a b : UInt64} (ha : own_Dy n j a) (hb : own_Dy m j b) (h : (n + m).natAbs < 2 ^ 53) : own_Dy (n + m) j (FP.dadd a b) := by
  have q := own_sum ha hb (by rw [← Int.add_mul]; exact own_dy_rep h)
  rw [← Int.add_mul] at q
  exact q
theorem own_ac4 (n m X Y : Int) : n * X * (m * Y) = n * m * (X * Y) := by simp only [Int.mul_assoc, Int.mul_left_comm, Int.mul_comm]
theorem own_dy_mul {n m : Int} {j i : Nat} {a b : UInt64} (ha : own_Dy n j a) (hb : own_Dy m i b) (h : (n * m).natAbs < 2 ^ 53) (hj : j + i ≤ 1074) : own_Dy (n * m) (j + i) (FP.dmul a b) := by
  refine own_mul ha hb ?_ (own_dy_rep h)
  rw [own_one, own_ac4, own_pw (c := 1074 - (j + i)) (d := 1074) (by omega), Int.mul_assoc (n * m)]
theorem own_dy_lift {n : Int} {j : Nat} {a : UInt64} (ha : own_Dy n j a) (k : Nat) (hj : j + k ≤ 1074) : own_Dy (n * 2 ^ k) (j + k) a := by
  unfold own_Dy at ha ⊢
  rw [Int.mul_assoc, ← Int.pow_add, show k + (1074 - (j + k)) = 1074 - j by omega]
  exact ha
end OwnDy
abbrev own_HW (Z : State) (a0 : Array Value) : Prop := ∀ d ∈ tables_1, d.before a0 Z = true
abbrev k1 : ByteArray := method_2_code
abbrev k2 : ByteArray := prog_41_method_1_code
abbrev k4 : ByteArray := prog_41_method_2_code
abbrev k5 : ByteArray := prog_41_method_3_code
abbrev k6 : ByteArray := prog_41_method_12_code
abbrev k7 : ByteArray := jdk_65_method_113_code
abbrev k9 : ByteArray := prog_41_method_14_code
abbrev k10 : ByteArray := prog_41_method_13_code
abbrev k12 : ByteArray := prog_41_method_4_code
abbrev own_K1 : String := "com/example/winnower/winnower/discrepancy/Simplex"
section OwnCalls
variable {p : Program} {l : Launch} {e : Env} {R : Room} {s : State} {m : MethodId} {args : Array Value} {below : List Frame} {meth : Method} {c : Code} {T Z : State} {locs : List Loc} {cells slots : Nat} {a0 : Array Value} {h : Heap}
abbrev own_Mt (l : Launch) (Z : State) (h : Heap) (y : MethodName) (w : Jvm.Cond) (rm : Room) (as' : Array Value) (Q : Option Value → Heap → List Loc → Prop) : Prop := MetFree l y (head1 [w] rm) (fun a U => a = as' ∧ Z.Warmed39 U.vm ∧ U.heap = h) (fun _ _ _ _ _ => True) (fun _ U o U' => ∃ v L, o = .returned v ∧ Q v U'.heap L ∧ FrameEnd U o U' L rm.cells rm.slots)
abbrev own_Out (p : Program) (l : Launch) (e : Env) (R : Room) (s : State) (m : MethodId) (args : Array Value) (below : List Frame) (meth : Method) (c : Code) (T : State) (locs : List Loc) (cN sN : Nat) (Q : Option Value → Heap → List Loc → Prop) (g : JFrame) (k : Nat) (rest : List Value) : Prop :=
  ∃ (v : Option Value) (T' : State) (L : List Loc), Stand p l e R s m args below meth c T' (locs ++ L) cN sN ∧ Q v T'.heap L ∧ Steps p.tables e below (T.setTop g) (T'.setTop { g with pc := g.pc + k, stack := v.toList ++ rest })
theorem own_cV (X : Stand p l e R s m args below meth c T locs cells slots) (hx : p.tables.exec = Jvm.exec) (hZ : Z.Warmed39 s.vm) (hw : own_HW Z a0) {own C : String} {index : Nat} {y : MethodName} {b : Addr} (hown : s.vm.findClass own = some m.cls) {bytes : ByteArray} {maxL : Nat} {ret : Option FieldType} {rm : Room} {W : Nat} {as' : Array Value} {Q : Option Value → Heap → List Loc → Prop} (hM : own_Mt l Z h y (.code y bytes maxL ret) rm as' Q) (hf : rm.frames + 1 ≤ R.frames) (hl : W + (maxL + 11) + rm.locals ≤ R.locals) (hq : y.cls ≠ "java/lang/invoke/MethodHandle" ∧ y.cls ≠ "java/lang/invoke/VarHandle") (i1 : Nat) (w1 : tables_1[i1]? = some (Jvm.Cond.methodLink own index y)) (i2 : Nat) (w2 : tables_1[i2]? = some (Jvm.Cond.declares y)) (i3 : Nat) (w3 : tables_1[i3]? = some (Jvm.Cond.selects C y y)) (i4 : Nat) (w4 : tables_1[i4]? = some (Jvm.Cond.instanceMethod y)) (i5 : Nat) (w5 : tables_1[i5]? = some (Jvm.Cond.code y bytes maxL ret)) (i6 : Nat) (w6 : tables_1[i6]? = some (Jvm.Cond.initialized y.cls)) (eT : T.heap = h) (F : Exa Z h b C) {g : JFrame} (hg : g.method = m) (hsize : g.locals.size = c.maxLocals) {argsL rest : List Value} (hlen : ∀ sig, parseMethodDescriptor y.desc = some sig → argsL.length = sig.parameters.length) (hstack : g.stack = argsL.reverse ++ .ref b :: rest) (hW : 2 * g.monitorRoom + (rest.map fun v => v.category).sum ≤ W) (hdg : decode c.code g.pc = .ok (.invokevirtual index, 3)) (has : (.ref b :: argsL).toArray = as') {cN sN : Nat} (hc : cells + rm.cells = cN) (hcl : cN ≤ R.cells) (hs' : slots + rm.slots = sN) (hsl : sN ≤ R.slots) :
    own_Out p l e R s m args below meth c T locs cN sN Q g 3 rest := by
  obtain ⟨cB, kB, a1, a2, a3⟩ := isOf hZ eT F
  obtain ⟨v, vm1, ⟨T', L', k', n'⟩, -, X', ⟨L, hQ, l1, l2, l3⟩, st⟩ := X.virtualBack hx hown (mvT hZ (own_w hw i1 w1)) (mvT hZ (own_w hw i2 w2)) (notFace_of_selects (args := #[]) (mvT hZ (own_w hw i3 w3))) (mvT hZ (own_w hw i3 w3)) (mvT hZ (own_w hw i4 w4)) hq (backOf (W := W) hM hZ (own_w hw i5 w5) (own_w hw i6 w6) hf hl) a1 a3 hg hsize (Steps.refl _) hlen hstack hW hdg (fun _ _ => ⟨has, eT, Nat.le_trans (Nat.le_of_eq hc) hcl, Nat.le_trans (Nat.le_of_eq hs') hsl⟩)
  dsimp only [Pt.U, Pt.locs, Pt.cells, Pt.slots] at X' l1 l2 l3 st hQ
  subst l1 l2 l3 hc hs'
  exact ⟨v, T', L, X', hQ, st⟩
theorem own_cP (X : Stand p l e R s m args below meth c T locs cells slots) (hx : p.tables.exec = Jvm.exec) (hZ : Z.Warmed39 s.vm) (hw : own_HW Z a0) {own C : String} {index : Nat} {y : MethodName} {b : Addr} (hown : s.vm.findClass own = some m.cls) {bytes : ByteArray} {maxL : Nat} {ret : Option FieldType} {rm : Room} {W : Nat} {as' : Array Value} {Q : Option Value → Heap → List Loc → Prop} (hM : own_Mt l Z h y (.code y bytes maxL ret) rm as' Q) (hf : rm.frames + 1 ≤ R.frames) (hl : W + (maxL + 11) + rm.locals ≤ R.locals) (hq : y.cls ≠ "java/lang/invoke/MethodHandle" ∧ y.cls ≠ "java/lang/invoke/VarHandle") (i1 : Nat) (w1 : tables_1[i1]? = some (Jvm.Cond.methodLink own index y)) (i2 : Nat) (w2 : tables_1[i2]? = some (Jvm.Cond.instanceMethod y)) (i3 : Nat) (w3 : tables_1[i3]? = some (Jvm.Cond.privateMethod y)) (i4 : Nat) (w4 : tables_1[i4]? = some (Jvm.Cond.code y bytes maxL ret)) (i5 : Nat) (w5 : tables_1[i5]? = some (Jvm.Cond.initialized y.cls)) (hsel : (Jvm.Cond.selects y.cls y y).before a0 Z = true) (eT : T.heap = h) (F : Exa Z h b C) {g : JFrame} (hg : g.method = m) (hsize : g.locals.size = c.maxLocals) {argsL rest : List Value} (hlen : ∀ sig, parseMethodDescriptor y.desc = some sig → argsL.length = sig.parameters.length) (hstack : g.stack = argsL.reverse ++ .ref b :: rest) (hW : 2 * g.monitorRoom + (rest.map fun v => v.category).sum ≤ W) (hdg : decode c.code g.pc = .ok (.invokevirtual index, 3)) (has : (.ref b :: argsL).toArray = as') {cN sN : Nat} (hc : cells + rm.cells = cN) (hcl : cN ≤ R.cells) (hs' : slots + rm.slots = sN) (hsl : sN ≤ R.slots) :
    own_Out p l e R s m args below meth c T locs cN sN Q g 3 rest := by
  obtain ⟨cq, q1, q2⟩ := F.cell
  obtain ⟨v, vm1, ⟨T', L', k', n'⟩, -, X', ⟨L, hQ, l1, l2, l3⟩, st⟩ := X.privateBack hx hown (mvT hZ (own_w hw i1 w1)) (mvT hZ (own_w hw i2 w2)) (mvT hZ hsel) (Cond.privateMethod_at (mvP hZ (own_w hw i3 w3) (args := #[]))) (mvT hZ (own_w hw i4 w4)) hq (backOf (W := W) hM hZ (own_w hw i4 w4) (own_w hw i5 w5) hf hl) hg hsize (Steps.refl _) (by rw [eT]; exact q1) q2 hlen hstack hW hdg (fun _ _ => ⟨has, eT, Nat.le_trans (Nat.le_of_eq hc) hcl, Nat.le_trans (Nat.le_of_eq hs') hsl⟩)
  dsimp only [Pt.U, Pt.locs, Pt.cells, Pt.slots] at X' l1 l2 l3 st hQ
  subst l1 l2 l3 hc hs'
  exact ⟨v, T', L, X', hQ, st⟩
theorem own_cS (X : Stand p l e R s m args below meth c T locs cells slots) (hx : p.tables.exec = Jvm.exec) (hZ : Z.Warmed39 s.vm) (hw : own_HW Z a0) {own : String} {index : Nat} {y : MethodName} (hown : s.vm.findClass own = some m.cls) {bytes : ByteArray} {maxL : Nat} {ret : Option FieldType} {rm : Room} {W : Nat} {as' : Array Value} {Q : Option Value → Heap → List Loc → Prop} (hM : own_Mt l Z h y (.code y bytes maxL ret) rm as' Q) (hf : rm.frames + 1 ≤ R.frames) (hl : W + (maxL + 11) + rm.locals ≤ R.locals) (hq : y.cls ≠ "java/lang/invoke/MethodHandle" ∧ y.cls ≠ "java/lang/invoke/VarHandle") (i1 : Nat) (w1 : tables_1[i1]? = some (Jvm.Cond.methodLink own index y)) (i2 : Nat) (w2 : tables_1[i2]? = some (Jvm.Cond.static y)) (i3 : Nat) (w3 : tables_1[i3]? = some (Jvm.Cond.initialized y.cls)) (i4 : Nat) (w4 : tables_1[i4]? = some (Jvm.Cond.code y bytes maxL ret)) (eT : T.heap = h) {g : JFrame} (hg : g.method = m) (hsize : g.locals.size = c.maxLocals) {argsL rest : List Value} (hlen : ∀ sig, parseMethodDescriptor y.desc = some sig → argsL.length = sig.parameters.length) (hstack : g.stack = argsL.reverse ++ rest) (hW : 2 * g.monitorRoom + (rest.map fun v => v.category).sum ≤ W) (hdg : decode c.code g.pc = .ok (.invokestatic index, 3)) (has : argsL.toArray = as') {cN sN : Nat} (hc : cells + rm.cells = cN) (hcl : cN ≤ R.cells) (hs' : slots + rm.slots = sN) (hsl : sN ≤ R.slots) :
    own_Out p l e R s m args below meth c T locs cN sN Q g 3 rest := by
  obtain ⟨v, vm1, ⟨T', L', k', n'⟩, -, X', ⟨L, hQ, l1, l2, l3⟩, st⟩ := Jvm.LawKit.callS X hx hown (mvT hZ (own_w hw i1 w1)) (mvT hZ (own_w hw i2 w2)) (mvT hZ (own_w hw i3 w3)) (mvT hZ (own_w hw i4 w4)) hq (backOf (W := W) hM hZ (own_w hw i4 w4) (own_w hw i3 w3) hf hl) hg hsize hlen hstack hW hdg (fun _ _ => ⟨has, eT, Nat.le_trans (Nat.le_of_eq hc) hcl, Nat.le_trans (Nat.le_of_eq hs') hsl⟩)
  dsimp only [Pt.U, Pt.locs, Pt.cells, Pt.slots] at X' l1 l2 l3 st hQ
  subst l1 l2 l3 hc hs'
  exact ⟨v, T', L, X', hQ, st _ (Steps.refl _)⟩
theorem own_cC (X : Stand p l e R s m args below meth c T locs cells slots) (hx : p.tables.exec = Jvm.exec) (hZ : Z.Warmed39 s.vm) (hw : own_HW Z a0) {own : String} {index : Nat} {y : MethodName} {b : Addr} (hown : s.vm.findClass own = some m.cls) {bytes : ByteArray} {maxL : Nat} {rm : Room} {W : Nat} {as' : Array Value} {Q : Option Value → Heap → List Loc → Prop} (hM : own_Mt l Z h y (.code y bytes maxL none) rm as' Q) (hf : rm.frames + 1 ≤ R.frames) (hl : W + (maxL + 11) + rm.locals ≤ R.locals) (hq : y.cls ≠ "java/lang/invoke/MethodHandle" ∧ y.cls ≠ "java/lang/invoke/VarHandle") (hi : y.name = "<init>") (i1 : Nat) (w1 : tables_1[i1]? = some (Jvm.Cond.methodLink own index y)) (i2 : Nat) (w2 : tables_1[i2]? = some (Jvm.Cond.instanceMethod y)) (i3 : Nat) (w3 : tables_1[i3]? = some (Jvm.Cond.code y bytes maxL none)) (i4 : Nat) (w4 : tables_1[i4]? = some (Jvm.Cond.initialized y.cls)) (eT : T.heap = h) {g : JFrame} (hg : g.method = m) (hsize : g.locals.size = c.maxLocals) {argsL rest : List Value} (hlen : ∀ sig, parseMethodDescriptor y.desc = some sig → argsL.length = sig.parameters.length) (hstack : g.stack = argsL.reverse ++ .ref b :: rest) (hW : 2 * g.monitorRoom + (rest.map fun v => v.category).sum ≤ W) (hdg : decode c.code g.pc = .ok (.invokespecial index, 3)) (has : (.ref b :: argsL).toArray = as') {cN sN : Nat} (hc : cells + rm.cells = cN) (hcl : cN ≤ R.cells) (hs' : slots + rm.slots = sN) (hsl : sN ≤ R.slots) :
    own_Out p l e R s m args below meth c T locs cN sN Q g 3 rest := by
  obtain ⟨v, vm1, ⟨T', L', k', n'⟩, -, X', ⟨L, hQ, l1, l2, l3⟩, st⟩ := X.specialBack hx hi hown (mvT hZ (own_w hw i1 w1)) (mvT hZ (own_w hw i2 w2)) (mvT hZ (own_w hw i3 w3)) hq (backOf (W := W) hM hZ (own_w hw i3 w3) (own_w hw i4 w4) hf hl) hg hsize (Steps.refl _) hlen hstack hW hdg (fun _ _ => ⟨has, eT, Nat.le_trans (Nat.le_of_eq hc) hcl, Nat.le_trans (Nat.le_of_eq hs') hsl⟩)
  dsimp only [Pt.U, Pt.locs, Pt.cells, Pt.slots] at X' l1 l2 l3 st hQ
  subst l1 l2 l3 hc hs'
  exact ⟨v, T', L, X', hQ, st⟩
end OwnCalls
section OwnSimplex
open Jvm.FP
def own_s (p : Int32) (a b : UInt64) : UInt64 := if p = 0 then a else b
def own_p2 (b : Int32) : UInt64 := if (b &&& (1 : Int32)) = (0 : Int32) then FP.i2d ((1 : Int32) <<< (((b >>> ((1 : Int32) &&& 31)) &&& (3 : Int32)) &&& 31)) else FP.dneg (FP.i2d ((1 : Int32) <<< (((b >>> ((1 : Int32) &&& 31)) &&& (3 : Int32)) &&& 31)))
theorem own_p2_t {b : Int32} (h : (b &&& (1 : Int32)) = (0 : Int32)) : (some (.double (FP.i2d ((1 : Int32) <<< (((b >>> ((1 : Int32) &&& 31)) &&& (3 : Int32)) &&& 31)))) : Option Value) = some (.double (own_p2 b)) := by rw [own_p2, if_pos h]
theorem own_p2_f {b : Int32} (h : ¬ (b &&& (1 : Int32)) = (0 : Int32)) : (some (.double (FP.dneg (FP.i2d ((1 : Int32) <<< (((b >>> ((1 : Int32) &&& 31)) &&& (3 : Int32)) &&& 31))))) : Option Value) = some (.double (own_p2 b)) := by rw [own_p2, if_neg h]
def own_t8 (i : Fin 8) : UInt64 := match i.val with | 0 => 4607182418800017408 | 1 => 4611686018427387904 | 2 => 4616189618054758400 | 3 => 4620693217682128896 | 4 => 13830554455654793216 | 5 => 13835058055282163712 | 6 => 13839561654909534208 | _ => 13844065254536904704
def own_t9 (i : Fin 9) : UInt64 := match i.val with | 8 => 0 | k => own_t8 (Fin.ofNat 8 k)
def own_vi (d : UInt64) : Int := if d = 4607182418800017408 then 1 else if d = 4611686018427387904 then 2 else if d = 4616189618054758400 then 4 else if d = 4620693217682128896 then 8 else if d = 13830554455654793216 then -1 else if d = 13835058055282163712 then -2 else if d = 13839561654909534208 then -4 else if d = 13844065254536904704 then -8 else 0
def own_mi (d : UInt64) : Int := if d = 4607182418800017408 then 8 else if d = 4611686018427387904 then 4 else if d = 4616189618054758400 then 2 else if d = 4620693217682128896 then 1 else if d = 13830554455654793216 then -8 else if d = 13835058055282163712 then -4 else if d = 13839561654909534208 then -2 else if d = 13844065254536904704 then -1 else 0
def own_is8 (d : UInt64) : Prop := ∃ i : Fin 8, d = own_t8 i
def own_is9 (d : UInt64) : Prop := d = 0 ∨ own_is8 d
theorem own_is9t {d : UInt64} (h : own_is9 d) : ∃ i : Fin 9, d = own_t9 i := by
  rcases h with rfl | ⟨i, rfl⟩
  · exact ⟨8, rfl⟩
  · revert i; decide +kernel
theorem own_p2_is (b : Int32) : own_is8 (own_p2 b) := by
  have q := own_maskI (x := b >>> ((1 : Int32) &&& 31)) (m := 3) (k := 2) (by decide) (by decide)
  obtain ⟨n, hn, e⟩ := own_cases32 (n := 4) q.1 (by omega)
  unfold own_p2
  rw [e]
  by_cases h : (b &&& (1 : Int32)) = (0 : Int32)
  · rw [if_pos h]
    match n, hn with
    | 0, _ => exact ⟨0, by decide +kernel⟩
    | 1, _ => exact ⟨1, by decide +kernel⟩
    | 2, _ => exact ⟨2, by decide +kernel⟩
    | 3, _ => exact ⟨3, by decide +kernel⟩
  · rw [if_neg h]
    match n, hn with
    | 0, _ => exact ⟨4, by decide +kernel⟩
    | 1, _ => exact ⟨5, by decide +kernel⟩
    | 2, _ => exact ⟨6, by decide +kernel⟩
    | 3, _ => exact ⟨7, by decide +kernel⟩
theorem own_bit {x b : Int32} (h : b = (x &&& (1 : Int32))) : b = 0 ∨ b = 1 := by
  have q := own_maskI (x := x) (m := 1) (k := 1) (by decide) (by decide)
  obtain ⟨n, hn, e⟩ := own_cases32 (n := 2) q.1 (by omega)
  rw [h, e]
  match n, hn with
  | 0, _ => exact Or.inl rfl
  | 1, _ => exact Or.inr rfl
theorem own_pq {pp pq : Int32} (hp : pp = 0 ∨ pp = 1) (h : pq = ((1 : Int32) - pp)) : (pp = 0 ∧ pq = 1) ∨ (pp = 1 ∧ pq = 0) := by
  rcases hp with rfl | rfl <;> subst h <;> decide
theorem own_pq01 {pp pq : Int32} (h : (pp = 0 ∧ pq = 1) ∨ (pp = 1 ∧ pq = 0)) : pq = 0 ∨ pq = 1 := by rcases h with ⟨_, h⟩ | ⟨_, h⟩; exact Or.inr h; exact Or.inl h
theorem own_in {x : Int32} (h : x = 0 ∨ x = 1) : ¬ x < (0 : Int32) ∧ x < (2 : Int32) := by rcases h with rfl | rfl <;> decide
theorem own_lt {x : Int32} {a b : Value} (h : x = 0 ∨ x = 1) : x.toNatClampNeg < ([a, b] : List Value).length := by rcases h with rfl | rfl <;> exact Nat.le_of_ble_eq_true rfl
theorem own_set0 {pp : Int32} (hp : pp = 0 ∨ pp = 1) (g : UInt64) : ([.double 0, .double 0] : List Value).set pp.toNatClampNeg (.double g) = [.double (own_s pp g 0), .double (own_s pp 0 g)] := by rcases hp with rfl | rfl <;> rfl
theorem own_set1 {pp pq : Int32} (h : (pp = 0 ∧ pq = 1) ∨ (pp = 1 ∧ pq = 0)) (g d : UInt64) : ([.double (own_s pp g 0), .double (own_s pp 0 g)] : List Value).set pq.toNatClampNeg (.double d) = [.double (own_s pp g d), .double (own_s pp d g)] := by rcases h with ⟨rfl, rfl⟩ | ⟨rfl, rfl⟩ <;> rfl
theorem own_gd {pp : Int32} (hp : pp = 0 ∨ pp = 1) {y0 y1 : UInt64} {dv : Value} : ([.double y0, .double y1] : List Value).getD pp.toNatClampNeg dv = .double (own_s pp y0 y1) := by rcases hp with rfl | rfl <;> rfl
theorem own_gd' {pp pq : Int32} (h : (pp = 0 ∧ pq = 1) ∨ (pp = 1 ∧ pq = 0)) {y0 y1 : UInt64} {dv : Value} : ([.double y0, .double y1] : List Value).getD pq.toNatClampNeg dv = .double (own_s pp y1 y0) := by rcases h with ⟨rfl, rfl⟩ | ⟨rfl, rfl⟩ <;> rfl
def own_el (f u v : UInt64) : UInt64 := if cmpValue (FP.dcmp f (0 : UInt64)) .l = (0 : Int32) then u else FP.dsub u (FP.dmul f v)
def own_ax (c u v : UInt64) : UInt64 := if cmpValue (FP.dcmp c (0 : UInt64)) .l = (0 : Int32) then u else FP.dadd u (FP.dmul c v)
def own_v (g0 g1 x0 x1 : UInt64) : UInt64 := FP.dadd (FP.dadd (0 : UInt64) (FP.dmul x0 g0)) (FP.dmul x1 g1)
def own_pv (x y : UInt64) : Int32 := cmpValue (FP.dcmp (x &&& 0x7fffffffffffffff) (y &&& 0x7fffffffffffffff)) .l
theorem own_z2 {f u v u' v' : UInt64} (h : cmpValue (FP.dcmp f (0 : UInt64)) .l = (0 : Int32)) : ([.double (own_el f u v), .double (own_el f u' v')] : List Value) = [.double u, .double u'] := by unfold own_el; rw [if_pos h, if_pos h]
theorem own_n2 {f u v u' v' : UInt64} (h : ¬ cmpValue (FP.dcmp f (0 : UInt64)) .l = (0 : Int32)) : ([.double (own_el f u v), .double (own_el f u' v')] : List Value) = [.double (FP.dsub u (FP.dmul f v)), .double (FP.dsub u' (FP.dmul f v'))] := by unfold own_el; rw [if_neg h, if_neg h]
theorem own_az {f u v u' v' : UInt64} (h : cmpValue (FP.dcmp f (0 : UInt64)) .l = (0 : Int32)) : ([.double (own_ax f u v), .double (own_ax f u' v')] : List Value) = [.double u, .double u'] := by unfold own_ax; rw [if_pos h, if_pos h]
theorem own_an {f u v u' v' : UInt64} (h : ¬ cmpValue (FP.dcmp f (0 : UInt64)) .l = (0 : Int32)) : ([.double (own_ax f u v), .double (own_ax f u' v')] : List Value) = [.double (FP.dadd u (FP.dmul f v)), .double (FP.dadd u' (FP.dmul f v'))] := by unfold own_ax; rw [if_neg h, if_neg h]
theorem own_nn0 : NoNaN64 (0 : UInt64) := by unfold NoNaN64; decide
def own_tol (a : UInt64) : Prop := NoNaN64 a ∧ ¬ cmpValue (FP.dcmp (a &&& 0x7fffffffffffffff) 4472406533629990549) .g < (0 : Int32)
def own_okE (f u v : UInt64) : Prop := NoNaN64 (FP.dmul f v) ∧ NoNaN64 (FP.dsub u (FP.dmul f v))
def own_okM (c v0 v1 z0 z1 : UInt64) : Prop := ¬ cmpValue (FP.dcmp c (0 : UInt64)) .l = (0 : Int32) → NoNaN64 (FP.dmul c v0) ∧ NoNaN64 (FP.dadd z0 (FP.dmul c v0)) ∧ NoNaN64 (FP.dmul c v1) ∧ NoNaN64 (FP.dadd z1 (FP.dmul c v1))
def own_okV (g0 g1 x0 x1 : UInt64) : Prop := NoNaN64 (FP.dmul x0 g0) ∧ NoNaN64 (FP.dadd (0 : UInt64) (FP.dmul x0 g0)) ∧ NoNaN64 (FP.dmul x1 g1) ∧ NoNaN64 (own_v g0 g1 x0 x1) ∧ own_v g0 g1 x0 x1 = 4607182418800017408
def own_okA (a b c d x0 x1 y0 y1 : UInt64) : Prop := (NoNaN64 (FP.ddiv a a) ∧ NoNaN64 (FP.ddiv x0 a) ∧ NoNaN64 (FP.ddiv b a) ∧ NoNaN64 (FP.ddiv x1 a)) ∧ (¬ cmpValue (FP.dcmp c (0 : UInt64)) .l = (0 : Int32) → own_okE c c (FP.ddiv a a) ∧ own_okE c y0 (FP.ddiv x0 a) ∧ own_okE c d (FP.ddiv b a) ∧ own_okE c y1 (FP.ddiv x1 a))
def own_okB (a b c d x0 x1 y0 y1 : UInt64) : Prop := (NoNaN64 (FP.ddiv c d) ∧ NoNaN64 (FP.ddiv y0 d) ∧ NoNaN64 (FP.ddiv d d) ∧ NoNaN64 (FP.ddiv y1 d)) ∧ (¬ cmpValue (FP.dcmp b (0 : UInt64)) .l = (0 : Int32) → own_okE b a (FP.ddiv c d) ∧ own_okE b x0 (FP.ddiv y0 d) ∧ own_okE b b (FP.ddiv d d) ∧ own_okE b x1 (FP.ddiv y1 d))
def own_rA (a b c d x0 x1 y0 y1 a1 b1 c1 d1 x01 x11 y01 y11 : UInt64) : Prop := a1 = FP.ddiv a a ∧ b1 = FP.ddiv b a ∧ c1 = own_el c c (FP.ddiv a a) ∧ d1 = own_el c d (FP.ddiv b a) ∧ x01 = FP.ddiv x0 a ∧ x11 = FP.ddiv x1 a ∧ y01 = own_el c y0 (FP.ddiv x0 a) ∧ y11 = own_el c y1 (FP.ddiv x1 a)
def own_rB (a b c d x0 x1 y0 y1 a1 b1 c1 d1 x01 x11 y01 y11 : UInt64) : Prop := a1 = own_el b a (FP.ddiv c d) ∧ b1 = own_el b b (FP.ddiv d d) ∧ c1 = FP.ddiv c d ∧ d1 = FP.ddiv d d ∧ x01 = own_el b x0 (FP.ddiv y0 d) ∧ x11 = own_el b x1 (FP.ddiv y1 d) ∧ y01 = FP.ddiv y0 d ∧ y11 = FP.ddiv y1 d
theorem own_rA_rfl {a b c d x0 x1 y0 y1 : UInt64} : own_rA a b c d x0 x1 y0 y1 (FP.ddiv a a) (FP.ddiv b a) (own_el c c (FP.ddiv a a)) (own_el c d (FP.ddiv b a)) (FP.ddiv x0 a) (FP.ddiv x1 a) (own_el c y0 (FP.ddiv x0 a)) (own_el c y1 (FP.ddiv x1 a)) := ⟨rfl, rfl, rfl, rfl, rfl, rfl, rfl, rfl⟩
theorem own_rB_rfl {a b c d x0 x1 y0 y1 : UInt64} : own_rB a b c d x0 x1 y0 y1 (own_el b a (FP.ddiv c d)) (own_el b b (FP.ddiv d d)) (FP.ddiv c d) (FP.ddiv d d) (own_el b x0 (FP.ddiv y0 d)) (own_el b x1 (FP.ddiv y1 d)) (FP.ddiv y0 d) (FP.ddiv y1 d) := ⟨rfl, rfl, rfl, rfl, rfl, rfl, rfl, rfl⟩
def own_end (g0 g1 x0 x1 y0 y1 i00 i01 i10 i11 : UInt64) : Prop := i00 = x0 ∧ i01 = x1 ∧ i10 = y0 ∧ i11 = y1 ∧ own_okV g0 g1 x0 x1 ∧ own_okV g0 g1 y0 y1
def own_ok (g0 g1 a b c d x0 x1 y0 y1 i00 i01 i10 i11 : UInt64) : Prop := own_tol a ∧ own_okA a b c d x0 x1 y0 y1 ∧ ∀ a1 b1 c1 d1 x01 x11 y01 y11, own_rA a b c d x0 x1 y0 y1 a1 b1 c1 d1 x01 x11 y01 y11 → own_tol d1 ∧ own_okB a1 b1 c1 d1 x01 x11 y01 y11 ∧ ∀ a2 b2 c2 d2 x02 x12 y02 y12, own_rB a1 b1 c1 d1 x01 x11 y01 y11 a2 b2 c2 d2 x02 x12 y02 y12 → own_end g0 g1 x02 x12 y02 y12 i00 i01 i10 i11
-- the same, reckoned
def own_nnb (v : UInt64) : Bool := decide (v &&& 0x7fffffffffffffff ≤ 0x7ff0000000000000)
theorem own_nnb_t {v : UInt64} (h : own_nnb v = true) : NoNaN64 v := by unfold NoNaN64; exact of_decide_eq_true h
def own_zb (f : UInt64) : Bool := decide (cmpValue (FP.dcmp f (0 : UInt64)) .l = (0 : Int32))
def own_tolb (a : UInt64) : Bool := own_nnb a && decide (¬ cmpValue (FP.dcmp (a &&& 0x7fffffffffffffff) 4472406533629990549) .g < (0 : Int32))
def own_okVb (g0 g1 x0 x1 : UInt64) : Bool := own_nnb (FP.dmul x0 g0) && (own_nnb (FP.dadd (0 : UInt64) (FP.dmul x0 g0)) && (own_nnb (FP.dmul x1 g1) && (own_nnb (own_v g0 g1 x0 x1) && decide (own_v g0 g1 x0 x1 = 4607182418800017408))))
def own_fo {α : Type} (x : UInt64) (k : UInt64 → α) : α := match x.toNat with
  | 0 => k 0
  | m + 1 => k (UInt64.ofNat (m + 1))
theorem own_fo_eq {α : Type} (x : UInt64) (k : UInt64 → α) : own_fo x k = k x := by
  unfold own_fo
  split
  · next h => rw [show x = 0 from UInt64.toNat_inj.mp h]
  · next m h => rw [show m + 1 = x.toNat from h.symm, UInt64.ofNat_toNat]
def own_Db (x y : UInt64) (k : UInt64 → Bool) : Bool := own_fo (FP.ddiv x y) fun r => own_nnb r && k r
def own_Eb (f u v : UInt64) (k : UInt64 → Bool) : Bool := if own_zb f = true then k u else own_fo (FP.dmul f v) fun q => own_nnb q && own_fo (FP.dsub u q) fun r => own_nnb r && k r
def own_okb (g0 g1 : UInt64) (P : UInt64 → UInt64 → UInt64 → UInt64 → Bool) (a b c d x0 x1 y0 y1 : UInt64) : Bool := own_tolb a && (own_Db a a fun a1 => own_Db x0 a fun x01 => own_Db b a fun b1 => own_Db x1 a fun x11 =>
  own_Eb c c a1 fun c1 => own_Eb c y0 x01 fun y01 => own_Eb c d b1 fun d1 => own_Eb c y1 x11 fun y11 => own_tolb d1 && (own_Db c1 d1 fun c2 => own_Db y01 d1 fun y02 => own_Db d1 d1 fun d2 => own_Db y11 d1 fun y12 =>
  own_Eb b1 a1 c2 fun _ => own_Eb b1 x01 y02 fun x02 => own_Eb b1 b1 d2 fun _ => own_Eb b1 x11 y12 fun x12 => P x02 x12 y02 y12 && (own_okVb g0 g1 x02 x12 && own_okVb g0 g1 y02 y12)))
theorem own_tolb_t {a : UInt64} (h : own_tolb a = true) : own_tol a := by
  unfold own_tolb at h
  rw [Bool.and_eq_true] at h
  exact ⟨own_nnb_t h.1, of_decide_eq_true h.2⟩
theorem own_okVb_t {g0 g1 x0 x1 : UInt64} (h : own_okVb g0 g1 x0 x1 = true) : own_okV g0 g1 x0 x1 := by
  unfold own_okVb at h
  simp only [Bool.and_eq_true] at h
  exact ⟨own_nnb_t h.1, own_nnb_t h.2.1, own_nnb_t h.2.2.1, own_nnb_t h.2.2.2.1, of_decide_eq_true h.2.2.2.2⟩
theorem own_Db_t {x y : UInt64} {k : UInt64 → Bool} (h : own_Db x y k = true) : NoNaN64 (FP.ddiv x y) ∧ k (FP.ddiv x y) = true := by
  unfold own_Db at h
  rw [own_fo_eq, Bool.and_eq_true] at h
  exact ⟨own_nnb_t h.1, h.2⟩
theorem own_Eb_t {f u v : UInt64} {k : UInt64 → Bool} (h : own_Eb f u v k = true) : (¬ cmpValue (FP.dcmp f (0 : UInt64)) .l = (0 : Int32) → own_okE f u v) ∧ k (own_el f u v) = true := by
  unfold own_Eb at h
  by_cases z : cmpValue (FP.dcmp f (0 : UInt64)) .l = (0 : Int32)
  · rw [if_pos (show own_zb f = true from decide_eq_true z)] at h
    refine ⟨fun q => absurd z q, ?_⟩
    unfold own_el
    rw [if_pos z]; exact h
  · rw [if_neg (show ¬ own_zb f = true from fun q => z (of_decide_eq_true q)), own_fo_eq, Bool.and_eq_true, own_fo_eq, Bool.and_eq_true] at h
    refine ⟨fun _ => ⟨own_nnb_t h.1, own_nnb_t h.2.1⟩, ?_⟩
    unfold own_el
    rw [if_neg z]; exact h.2.2
theorem own_ok_of {g0 g1 a b c d x0 x1 y0 y1 : UInt64} {P : UInt64 → UInt64 → UInt64 → UInt64 → Bool} (h : own_okb g0 g1 P a b c d x0 x1 y0 y1 = true) : ∃ i00 i01 i10 i11, own_ok g0 g1 a b c d x0 x1 y0 y1 i00 i01 i10 i11 ∧ P i00 i01 i10 i11 = true := by
  unfold own_okb at h
  rw [Bool.and_eq_true] at h
  obtain ⟨ht, h⟩ := h
  obtain ⟨n1, h⟩ := own_Db_t h
  obtain ⟨n2, h⟩ := own_Db_t h
  obtain ⟨n3, h⟩ := own_Db_t h
  obtain ⟨n4, h⟩ := own_Db_t h
  obtain ⟨e1, h⟩ := own_Eb_t h
  obtain ⟨e2, h⟩ := own_Eb_t h
  obtain ⟨e3, h⟩ := own_Eb_t h
  obtain ⟨e4, h⟩ := own_Eb_t h
  rw [Bool.and_eq_true] at h
  obtain ⟨hu, h⟩ := h
  obtain ⟨m1, h⟩ := own_Db_t h
  obtain ⟨m2, h⟩ := own_Db_t h
  obtain ⟨m3, h⟩ := own_Db_t h
  obtain ⟨m4, h⟩ := own_Db_t h
  obtain ⟨f1, h⟩ := own_Eb_t h
  obtain ⟨f2, h⟩ := own_Eb_t h
  obtain ⟨f3, h⟩ := own_Eb_t h
  obtain ⟨f4, h⟩ := own_Eb_t h
  rw [Bool.and_eq_true, Bool.and_eq_true] at h
  obtain ⟨hP, hV, hV'⟩ := h
  refine ⟨_, _, _, _, ⟨own_tolb_t ht, ⟨⟨n1, n2, n3, n4⟩, fun z => ⟨e1 z, e2 z, e3 z, e4 z⟩⟩, ?_⟩, hP⟩
  rintro _ _ _ _ _ _ _ _ ⟨rfl, rfl, rfl, rfl, rfl, rfl, rfl, rfl⟩
  refine ⟨own_tolb_t hu, ⟨⟨m1, m2, m3, m4⟩, fun z => ⟨f1 z, f2 z, f3 z, f4 z⟩⟩, ?_⟩
  rintro _ _ _ _ _ _ _ _ ⟨rfl, rfl, rfl, rfl, rfl, rfl, rfl, rfl⟩
  exact ⟨rfl, rfl, rfl, rfl, own_okVb_t hV, own_okVb_t hV'⟩
-- exact values, reckoned
def own_atb (a : UInt64) (z : Int) : Bool := match Core.val64 a with | .fin s c q => decide (Core.signed s (Core.inUnits c q (-1074)) = z) | _ => false
theorem own_atb_t {a : UInt64} {z : Int} (h : own_atb a z = true) : own_At a z := by
  unfold own_atb at h
  split at h
  · next s c q hv => exact ⟨s, c, q, hv, of_decide_eq_true h⟩
  · cases h
def own_dyb (n : Int) (a : UInt64) : Bool := own_atb a (n * 2 ^ 1068)
theorem own_dyb_t {n : Int} {a : UInt64} (h : own_dyb n a = true) : own_Dy n 6 a := own_atb_t h
def own_P (d0 d1 e iA iB iC iD : UInt64) : Bool := own_dyb (8 * own_mi d0) iA && (own_dyb (-(own_vi e * (own_mi d0 * own_mi d1))) iB && (own_dyb 0 iC && own_dyb (8 * own_mi d1) iD))
theorem own_P_t {d0 d1 e iA iB iC iD : UInt64} (h : own_P d0 d1 e iA iB iC iD = true) : own_Dy (8 * own_mi d0) 6 iA ∧ own_Dy (-(own_vi e * (own_mi d0 * own_mi d1))) 6 iB ∧ own_Dy 0 6 iC ∧ own_Dy (8 * own_mi d1) 6 iD := by
  unfold own_P at h
  simp only [Bool.and_eq_true] at h
  exact ⟨own_dyb_t h.1, own_dyb_t h.2.1, own_dyb_t h.2.2.1, own_dyb_t h.2.2.2⟩
def own_K00 (d0 d1 e : UInt64) : Bool := decide (¬ (0 : Int32) < own_pv 0 d0) && own_okb (FP.dadd d0 e) d1 (fun a b c d => own_P d0 d1 e a b c d) d0 e 0 d1 4607182418800017408 0 0 4607182418800017408
def own_K10 (d0 d1 e : UInt64) : Bool := decide ((0 : Int32) < own_pv d0 0) && own_okb d1 (FP.dadd d0 e) (fun a b c d => own_P d0 d1 e b a d c) d0 e 0 d1 0 4607182418800017408 4607182418800017408 0
def own_K01 (d0 d1 e : UInt64) : Bool := if (0 : Int32) < own_pv d1 e then own_okb (FP.dadd d0 e) d1 (fun a b c d => own_P d0 d1 e c d a b) d1 0 e d0 0 4607182418800017408 4607182418800017408 0 else own_okb (FP.dadd d0 e) d1 (fun a b c d => own_P d0 d1 e c d a b) e d0 d1 0 4607182418800017408 0 0 4607182418800017408
def own_K11 (d0 d1 e : UInt64) : Bool := if (0 : Int32) < own_pv e d1 then own_okb d1 (FP.dadd d0 e) (fun a b c d => own_P d0 d1 e d c b a) e d0 d1 0 0 4607182418800017408 4607182418800017408 0 else own_okb d1 (FP.dadd d0 e) (fun a b c d => own_P d0 d1 e d c b a) d1 0 e d0 4607182418800017408 0 0 4607182418800017408
theorem own_K00_all : ∀ i j : Fin 8, ∀ k : Fin 9, own_K00 (own_t8 i) (own_t8 j) (own_t9 k) = true := by decide +kernel
theorem own_K10_all : ∀ i j : Fin 8, ∀ k : Fin 9, own_K10 (own_t8 i) (own_t8 j) (own_t9 k) = true := by decide +kernel
theorem own_K01_all : ∀ i j : Fin 8, ∀ k : Fin 9, own_K01 (own_t8 i) (own_t8 j) (own_t9 k) = true := by decide +kernel
theorem own_K11_all : ∀ i j : Fin 8, ∀ k : Fin 9, own_K11 (own_t8 i) (own_t8 j) (own_t9 k) = true := by decide +kernel
theorem own_gnn {d e : UInt64} (h : own_is8 d) (h' : own_is9 e) : NoNaN64 (FP.dadd d e) := by
  obtain ⟨i, rfl⟩ := h
  obtain ⟨k, rfl⟩ := own_is9t h'
  have q : ∀ (i : Fin 8) (k : Fin 9), own_nnb (FP.dadd (own_t8 i) (own_t9 k)) = true := by decide +kernel
  exact own_nnb_t (q i k)
theorem own_nn8 {d : UInt64} (h : own_is8 d) : NoNaN64 d := by
  obtain ⟨i, rfl⟩ := h
  have q : ∀ i : Fin 8, own_nnb (own_t8 i) = true := by decide +kernel
  exact own_nnb_t (q i)
theorem own_nn9 {d : UInt64} (h : own_is9 d) : NoNaN64 d := by
  obtain ⟨i, rfl⟩ := own_is9t h
  have q : ∀ i : Fin 9, own_nnb (own_t9 i) = true := by decide +kernel
  exact own_nnb_t (q i)
theorem own_vm {d : UInt64} (h : own_is8 d) : own_mi d * own_vi d = 8 ∧ (own_mi d).natAbs ≤ 8 ∧ own_Dy (own_vi d) 0 d := by
  obtain ⟨i, rfl⟩ := h
  have q : ∀ i : Fin 8, own_mi (own_t8 i) * own_vi (own_t8 i) = 8 ∧ (own_mi (own_t8 i)).natAbs ≤ 8 ∧ own_atb (own_t8 i) (own_vi (own_t8 i) * 2 ^ (1074 - 0)) = true := by decide +kernel
  exact ⟨(q i).1, (q i).2.1, own_atb_t (q i).2.2⟩
theorem own_ve {d : UInt64} (h : own_is9 d) : (own_vi d).natAbs ≤ 8 ∧ own_Dy (own_vi d) 0 d := by
  obtain ⟨i, rfl⟩ := own_is9t h
  have q : ∀ i : Fin 9, (own_vi (own_t9 i)).natAbs ≤ 8 ∧ own_atb (own_t9 i) (own_vi (own_t9 i) * 2 ^ (1074 - 0)) = true := by decide +kernel
  exact ⟨(q i).1, own_atb_t (q i).2⟩
theorem own_Di (x : Int32) : own_Dy x.toInt 0 (FP.i2d x) := own_dy_int (Core.i2d_int x)
theorem own_mb {x y : Int} {A B : Nat} (hx : x.natAbs ≤ A) (hy : y.natAbs ≤ B) : (x * y).natAbs ≤ A * B := by rw [Int.natAbs_mul]; exact Nat.mul_le_mul hx hy
theorem own_ax_dy {nc n m : Int} {c u v : UInt64} (hc : own_Dy nc 0 c) (hu : own_Dy n 6 u) (hv : own_Dy m 6 v) (b1 : (nc * m).natAbs < 2 ^ 53) (b2 : (n + nc * m).natAbs < 2 ^ 53) : own_Dy (n + nc * m) 6 (own_ax c u v) ∧ NoNaN64 (FP.dmul c v) ∧ NoNaN64 (FP.dadd u (FP.dmul c v)) := by
  have hp := own_dy_mul hc hv b1 (by decide)
  rw [Nat.zero_add] at hp
  have hs := own_dy_add hu hp b2
  refine ⟨?_, own_dy_nn hp, own_dy_nn hs⟩
  unfold own_ax
  by_cases z : cmpValue (FP.dcmp c (0 : UInt64)) .l = (0 : Int32)
  · rw [if_pos z]
    have h0 : own_At (0 : UInt64) 0 := own_atb_t (by decide +kernel)
    rw [own_cmpV hc h0] at z
    have n0 : nc = 0 := by
      have pz : (0 : Int) < 2 ^ (1074 - 0) := Int.pow_pos (by decide)
      rcases Int.lt_trichotomy (nc * 2 ^ (1074 - 0)) 0 with q | q | q
      · rw [if_pos q] at z; exact absurd z (by decide)
      · rcases Int.mul_eq_zero.mp q with r | r
        · exact r
        · exact absurd r (Int.ne_of_gt pz)
      · rw [if_neg (Int.not_lt.mpr (Int.le_of_lt q)), if_neg (Int.ne_of_gt q)] at z; exact absurd z (by decide)
    rw [n0, Int.zero_mul, Int.add_zero]; exact hu
  · rw [if_neg z]; exact hs
theorem own_cmp0 {n m : Int} {a b : UInt64} (ha : own_Dy n 6 a) (hb : own_Dy m 0 b) (h : n = m * 2 ^ 6) : cmpValue (FP.dcmp a b) .l = (0 : Int32) := own_eqV ha (own_dy_lift hb 6 (by decide)) (by rw [h]) .l
theorem own_i31 (x : Int32) : x.toInt.natAbs ≤ 2 ^ 31 := by have := rng32 x; omega
theorem own_zero6 : own_Dy 0 6 (0 : UInt64) := own_dyb_t (by decide +kernel)
theorem own_lawc {p0 p1 : Int32} {d0 d1 e yP yQ : UInt64} (d8 : own_is8 d0) (d8' : own_is8 d1) (he : own_is9 e) (hP : own_Dy (8 * (p0.toInt * own_mi d0)) 6 yP) (hQ : own_Dy (own_mi d1 * (8 * p1.toInt - own_vi e * (p0.toInt * own_mi d0))) 6 yQ) :
    (NoNaN64 (FP.dmul yP d0) ∧ cmpValue (FP.dcmp (FP.dmul yP d0) (FP.i2d p0)) .l = (0 : Int32)) ∧ NoNaN64 (FP.dmul yP e) ∧ NoNaN64 (FP.dmul yQ d1) ∧ NoNaN64 (FP.dadd (FP.dmul yP e) (FP.dmul yQ d1)) ∧ cmpValue (FP.dcmp (FP.dadd (FP.dmul yP e) (FP.dmul yQ d1)) (FP.i2d p1)) .l = (0 : Int32) := by
  obtain ⟨v0, m0, t0⟩ := own_vm d8
  obtain ⟨v1, m1, t1⟩ := own_vm d8'
  obtain ⟨ve, te⟩ := own_ve he
  have b0 := own_i31 p0; have b1 := own_i31 p1
  have bA := own_mb b0 m0
  have bE := own_mb ve bA
  generalize hA : p0.toInt * own_mi d0 = A at *
  have e0 : 8 * A * own_vi d0 = p0.toInt * 2 ^ 6 := by rw [← hA, Int.mul_assoc 8, Int.mul_assoc p0.toInt, v0]; omega
  have q0 := own_dy_mul hP t0 (by rw [e0]; omega) (by decide)
  rw [Nat.add_zero] at q0
  have qe := own_dy_mul hP te (by rw [Int.mul_assoc, Int.mul_comm A]; generalize own_vi e * A = E at *; omega) (by decide)
  rw [Nat.add_zero] at qe
  generalize hE : own_vi e * A = E at *
  have e1 : own_mi d1 * (8 * p1.toInt - E) * own_vi d1 = 8 * (8 * p1.toInt - E) := by rw [Int.mul_right_comm, v1]
  have q1 := own_dy_mul hQ t1 (by rw [e1]; omega) (by decide)
  rw [e1, Nat.add_zero] at q1
  rw [show 8 * A * own_vi e = 8 * E by rw [← hE, Int.mul_assoc, Int.mul_comm A]] at qe
  have qs := own_dy_add qe q1 (by omega)
  refine ⟨⟨own_dy_nn q0, own_cmp0 q0 (own_Di p0) e0⟩, own_dy_nn qe, own_dy_nn q1, own_dy_nn qs, own_cmp0 qs (own_Di p1) (by omega)⟩
theorem own_law0 {pp : Int32} (p0 p1 : Int32) {d0 d1 e iA iB iC iD : UInt64} (hp : pp = 0 ∨ pp = 1) (d8 : own_is8 d0) (d8' : own_is8 d1) (he : own_is9 e) (hA : own_Dy (8 * own_mi d0) 6 iA) (hB : own_Dy (-(own_vi e * (own_mi d0 * own_mi d1))) 6 iB) (hC : own_Dy 0 6 iC) (hD : own_Dy (8 * own_mi d1) 6 iD) :
    own_okM (FP.i2d p0) (own_s pp iA iB) (own_s pp iB iA) 0 0 ∧ own_okM (FP.i2d p1) (own_s pp iC iD) (own_s pp iD iC) (own_ax (FP.i2d p0) 0 (own_s pp iA iB)) (own_ax (FP.i2d p0) 0 (own_s pp iB iA)) ∧
    (NoNaN64 (FP.dmul (own_s pp (own_ax (FP.i2d p1) (own_ax (FP.i2d p0) 0 (own_s pp iA iB)) (own_s pp iC iD)) (own_ax (FP.i2d p1) (own_ax (FP.i2d p0) 0 (own_s pp iB iA)) (own_s pp iD iC))) d0) ∧ cmpValue (FP.dcmp (FP.dmul (own_s pp (own_ax (FP.i2d p1) (own_ax (FP.i2d p0) 0 (own_s pp iA iB)) (own_s pp iC iD)) (own_ax (FP.i2d p1) (own_ax (FP.i2d p0) 0 (own_s pp iB iA)) (own_s pp iD iC))) d0) (FP.i2d p0)) .l = (0 : Int32)) ∧ NoNaN64 (FP.dmul (own_s pp (own_ax (FP.i2d p1) (own_ax (FP.i2d p0) 0 (own_s pp iA iB)) (own_s pp iC iD)) (own_ax (FP.i2d p1) (own_ax (FP.i2d p0) 0 (own_s pp iB iA)) (own_s pp iD iC))) e) ∧ NoNaN64 (FP.dmul (own_s pp (own_ax (FP.i2d p1) (own_ax (FP.i2d p0) 0 (own_s pp iB iA)) (own_s pp iD iC)) (own_ax (FP.i2d p1) (own_ax (FP.i2d p0) 0 (own_s pp iA iB)) (own_s pp iC iD))) d1) ∧ NoNaN64 (FP.dadd (FP.dmul (own_s pp (own_ax (FP.i2d p1) (own_ax (FP.i2d p0) 0 (own_s pp iA iB)) (own_s pp iC iD)) (own_ax (FP.i2d p1) (own_ax (FP.i2d p0) 0 (own_s pp iB iA)) (own_s pp iD iC))) e) (FP.dmul (own_s pp (own_ax (FP.i2d p1) (own_ax (FP.i2d p0) 0 (own_s pp iB iA)) (own_s pp iD iC)) (own_ax (FP.i2d p1) (own_ax (FP.i2d p0) 0 (own_s pp iA iB)) (own_s pp iC iD))) d1)) ∧ cmpValue (FP.dcmp (FP.dadd (FP.dmul (own_s pp (own_ax (FP.i2d p1) (own_ax (FP.i2d p0) 0 (own_s pp iA iB)) (own_s pp iC iD)) (own_ax (FP.i2d p1) (own_ax (FP.i2d p0) 0 (own_s pp iB iA)) (own_s pp iD iC))) e) (FP.dmul (own_s pp (own_ax (FP.i2d p1) (own_ax (FP.i2d p0) 0 (own_s pp iB iA)) (own_s pp iD iC)) (own_ax (FP.i2d p1) (own_ax (FP.i2d p0) 0 (own_s pp iA iB)) (own_s pp iC iD))) d1)) (FP.i2d p1)) .l = (0 : Int32) := by
  obtain ⟨v0, m0, t0⟩ := own_vm d8
  obtain ⟨v1, m1, t1⟩ := own_vm d8'
  obtain ⟨ve, te⟩ := own_ve he
  have b0 := own_i31 p0; have b1 := own_i31 p1
  have c8 : (8 : Int).natAbs ≤ 8 := by decide
  have bA := own_mb b0 (own_mb c8 m0)
  have bB := own_mb b0 (show (-(own_vi e * (own_mi d0 * own_mi d1))).natAbs ≤ 8 * (8 * 8) by rw [Int.natAbs_neg]; exact own_mb ve (own_mb m0 m1))
  have bD := own_mb b1 (own_mb c8 m1)
  have bC : (p1.toInt * 0).natAbs = 0 := by rw [Int.mul_zero]; rfl
  have sA := own_ax_dy (own_Di p0) own_zero6 hA (by omega) (by omega)
  have sB := own_ax_dy (own_Di p0) own_zero6 hB (by omega) (by omega)
  have sP := own_ax_dy (own_Di p1) sA.1 hC (by omega) (by omega)
  have sQ := own_ax_dy (own_Di p1) sB.1 hD (by omega) (by omega)
  have hP : own_Dy (8 * (p0.toInt * own_mi d0)) 6 (own_ax (FP.i2d p1) (own_ax (FP.i2d p0) 0 iA) iC) := by
    have q := sP.1
    rw [show 0 + p0.toInt * (8 * own_mi d0) + p1.toInt * 0 = 8 * (p0.toInt * own_mi d0) by rw [Int.mul_left_comm]; omega] at q
    exact q
  have hQ : own_Dy (own_mi d1 * (8 * p1.toInt - own_vi e * (p0.toInt * own_mi d0))) 6 (own_ax (FP.i2d p1) (own_ax (FP.i2d p0) 0 iB) iD) := by
    have q := sQ.1
    have r1 : p0.toInt * -(own_vi e * (own_mi d0 * own_mi d1)) = -(own_mi d1 * (own_vi e * (p0.toInt * own_mi d0))) := by rw [Int.mul_neg]; simp only [Int.mul_assoc, Int.mul_left_comm, Int.mul_comm]
    have r2 : p1.toInt * (8 * own_mi d1) = own_mi d1 * (8 * p1.toInt) := by simp only [Int.mul_assoc, Int.mul_left_comm, Int.mul_comm]
    rw [show 0 + p0.toInt * -(own_vi e * (own_mi d0 * own_mi d1)) + p1.toInt * (8 * own_mi d1) = own_mi d1 * (8 * p1.toInt - own_vi e * (p0.toInt * own_mi d0)) by rw [Int.mul_sub, r1, r2]; omega] at q
    exact q
  have hl := own_lawc d8 d8' he hP hQ
  rcases hp with rfl | rfl
  · exact ⟨fun _ => ⟨sA.2.1, sA.2.2, sB.2.1, sB.2.2⟩, fun _ => ⟨sP.2.1, sP.2.2, sQ.2.1, sQ.2.2⟩, hl⟩
  · exact ⟨fun _ => ⟨sB.2.1, sB.2.2, sA.2.1, sA.2.2⟩, fun _ => ⟨sQ.2.1, sQ.2.2, sP.2.1, sP.2.2⟩, hl⟩
theorem own_law1 {pp : Int32} (p0 p1 : Int32) {d0 d1 e iA iB iC iD : UInt64} (hp : pp = 0 ∨ pp = 1) (d8 : own_is8 d0) (d8' : own_is8 d1) (he : own_is9 e) (hA : own_Dy (8 * own_mi d0) 6 iA) (hB : own_Dy (-(own_vi e * (own_mi d0 * own_mi d1))) 6 iB) (hC : own_Dy 0 6 iC) (hD : own_Dy (8 * own_mi d1) 6 iD) :
    own_okM (FP.i2d p1) (own_s pp iC iD) (own_s pp iD iC) 0 0 ∧ own_okM (FP.i2d p0) (own_s pp iA iB) (own_s pp iB iA) (own_ax (FP.i2d p1) 0 (own_s pp iC iD)) (own_ax (FP.i2d p1) 0 (own_s pp iD iC)) ∧
    (NoNaN64 (FP.dmul (own_s pp (own_ax (FP.i2d p0) (own_ax (FP.i2d p1) 0 (own_s pp iC iD)) (own_s pp iA iB)) (own_ax (FP.i2d p0) (own_ax (FP.i2d p1) 0 (own_s pp iD iC)) (own_s pp iB iA))) d0) ∧ cmpValue (FP.dcmp (FP.dmul (own_s pp (own_ax (FP.i2d p0) (own_ax (FP.i2d p1) 0 (own_s pp iC iD)) (own_s pp iA iB)) (own_ax (FP.i2d p0) (own_ax (FP.i2d p1) 0 (own_s pp iD iC)) (own_s pp iB iA))) d0) (FP.i2d p0)) .l = (0 : Int32)) ∧ NoNaN64 (FP.dmul (own_s pp (own_ax (FP.i2d p0) (own_ax (FP.i2d p1) 0 (own_s pp iC iD)) (own_s pp iA iB)) (own_ax (FP.i2d p0) (own_ax (FP.i2d p1) 0 (own_s pp iD iC)) (own_s pp iB iA))) e) ∧ NoNaN64 (FP.dmul (own_s pp (own_ax (FP.i2d p0) (own_ax (FP.i2d p1) 0 (own_s pp iD iC)) (own_s pp iB iA)) (own_ax (FP.i2d p0) (own_ax (FP.i2d p1) 0 (own_s pp iC iD)) (own_s pp iA iB))) d1) ∧ NoNaN64 (FP.dadd (FP.dmul (own_s pp (own_ax (FP.i2d p0) (own_ax (FP.i2d p1) 0 (own_s pp iC iD)) (own_s pp iA iB)) (own_ax (FP.i2d p0) (own_ax (FP.i2d p1) 0 (own_s pp iD iC)) (own_s pp iB iA))) e) (FP.dmul (own_s pp (own_ax (FP.i2d p0) (own_ax (FP.i2d p1) 0 (own_s pp iD iC)) (own_s pp iB iA)) (own_ax (FP.i2d p0) (own_ax (FP.i2d p1) 0 (own_s pp iC iD)) (own_s pp iA iB))) d1)) ∧ cmpValue (FP.dcmp (FP.dadd (FP.dmul (own_s pp (own_ax (FP.i2d p0) (own_ax (FP.i2d p1) 0 (own_s pp iC iD)) (own_s pp iA iB)) (own_ax (FP.i2d p0) (own_ax (FP.i2d p1) 0 (own_s pp iD iC)) (own_s pp iB iA))) e) (FP.dmul (own_s pp (own_ax (FP.i2d p0) (own_ax (FP.i2d p1) 0 (own_s pp iD iC)) (own_s pp iB iA)) (own_ax (FP.i2d p0) (own_ax (FP.i2d p1) 0 (own_s pp iC iD)) (own_s pp iA iB))) d1)) (FP.i2d p1)) .l = (0 : Int32) := by
  obtain ⟨v0, m0, t0⟩ := own_vm d8
  obtain ⟨v1, m1, t1⟩ := own_vm d8'
  obtain ⟨ve, te⟩ := own_ve he
  have b0 := own_i31 p0; have b1 := own_i31 p1
  have c8 : (8 : Int).natAbs ≤ 8 := by decide
  have bA := own_mb b0 (own_mb c8 m0)
  have bB := own_mb b0 (show (-(own_vi e * (own_mi d0 * own_mi d1))).natAbs ≤ 8 * (8 * 8) by rw [Int.natAbs_neg]; exact own_mb ve (own_mb m0 m1))
  have bD := own_mb b1 (own_mb c8 m1)
  have bC : (p1.toInt * 0).natAbs = 0 := by rw [Int.mul_zero]; rfl
  have sA := own_ax_dy (own_Di p1) own_zero6 hC (by omega) (by omega)
  have sB := own_ax_dy (own_Di p1) own_zero6 hD (by omega) (by omega)
  have sP := own_ax_dy (own_Di p0) sA.1 hA (by omega) (by omega)
  have sQ := own_ax_dy (own_Di p0) sB.1 hB (by omega) (by omega)
  have hP : own_Dy (8 * (p0.toInt * own_mi d0)) 6 (own_ax (FP.i2d p0) (own_ax (FP.i2d p1) 0 iC) iA) := by
    have q := sP.1
    rw [show 0 + p1.toInt * 0 + p0.toInt * (8 * own_mi d0) = 8 * (p0.toInt * own_mi d0) by rw [Int.mul_left_comm]; omega] at q
    exact q
  have hQ : own_Dy (own_mi d1 * (8 * p1.toInt - own_vi e * (p0.toInt * own_mi d0))) 6 (own_ax (FP.i2d p0) (own_ax (FP.i2d p1) 0 iD) iB) := by
    have q := sQ.1
    have r1 : p0.toInt * -(own_vi e * (own_mi d0 * own_mi d1)) = -(own_mi d1 * (own_vi e * (p0.toInt * own_mi d0))) := by rw [Int.mul_neg]; simp only [Int.mul_assoc, Int.mul_left_comm, Int.mul_comm]
    have r2 : p1.toInt * (8 * own_mi d1) = own_mi d1 * (8 * p1.toInt) := by simp only [Int.mul_assoc, Int.mul_left_comm, Int.mul_comm]
    rw [show 0 + p1.toInt * (8 * own_mi d1) + p0.toInt * -(own_vi e * (own_mi d0 * own_mi d1)) = own_mi d1 * (8 * p1.toInt - own_vi e * (p0.toInt * own_mi d0)) by rw [Int.mul_sub, r1, r2]; omega] at q
    exact q
  have hl := own_lawc d8 d8' he hP hQ
  rcases hp with rfl | rfl
  · exact ⟨fun _ => ⟨sA.2.1, sA.2.2, sB.2.1, sB.2.2⟩, fun _ => ⟨sP.2.1, sP.2.2, sQ.2.1, sQ.2.2⟩, hl⟩
  · exact ⟨fun _ => ⟨sB.2.1, sB.2.2, sA.2.1, sA.2.2⟩, fun _ => ⟨sQ.2.1, sQ.2.2, sP.2.1, sP.2.2⟩, hl⟩
end OwnSimplex
theorem d1_0 : decode k1 0 = .ok (.iconst 1, 1) := by decide +kernel
theorem d1_1 : decode k1 1 = .ok (.iload_n 0, 1) := by decide +kernel
theorem d1_2 : decode k1 2 = .ok (.iconst 1, 1) := by decide +kernel
theorem d1_3 : decode k1 3 = .ok (.ishr, 1) := by decide +kernel
theorem d1_4 : decode k1 4 = .ok (.iconst 3, 1) := by decide +kernel
theorem d1_5 : decode k1 5 = .ok (.iand, 1) := by decide +kernel
theorem d1_6 : decode k1 6 = .ok (.ishl, 1) := by decide +kernel
theorem d1_7 : decode k1 7 = .ok (.i2d, 1) := by decide +kernel
theorem d1_8 : decode k1 8 = .ok (.dstore_n 1, 1) := by decide +kernel
theorem d1_9 : decode k1 9 = .ok (.iload_n 0, 1) := by decide +kernel
theorem d1_10 : decode k1 10 = .ok (.iconst 1, 1) := by decide +kernel
theorem d1_11 : decode k1 11 = .ok (.iand, 1) := by decide +kernel
theorem d1_12 : decode k1 12 = .ok (.ifCond .eq 8, 3) := by decide +kernel
theorem d1_15 : decode k1 15 = .ok (.dload_n 1, 1) := by decide +kernel
theorem d1_16 : decode k1 16 = .ok (.dneg, 1) := by decide +kernel
theorem d1_17 : decode k1 17 = .ok (.goto 4, 3) := by decide +kernel
theorem d1_20 : decode k1 20 = .ok (.dload_n 1, 1) := by decide +kernel
theorem d1_21 : decode k1 21 = .ok (.dreturn, 1) := by decide +kernel
theorem pn0 : plainName "com/example/winnower/winnower/discrepancy/SimplexMultipliersPinLaw" = true := by first | (simp [plainName, overriddenIn]; done) | decide +kernel
theorem efm1 (m : MethodId) (p0 : Int32) : entryFrame m #[(.int p0)] 3 = mkF m 0 #[oI p0, oU, oU] [] := by first | (simp [entryFrame, mkF, argsToLocals, Value.category]; done) | rfl
def Qm1 (Z : State) (p0 : Int32) (h0 : Heap) (n0 : Nat) (v : Option Value) (h : Heap) (L : List Loc) : Prop := v = some (.double (own_p2 p0)) ∧ Fr n0 L ∧ (h = h0)
set_option maxRecDepth 65536 in
set_option maxHeartbeats 40000000 in
theorem rmm1 (l : Launch) (Z : State) (a0 : Array Value) (hw : own_HW Z a0) (ws : List Jvm.Cond) (p0 : Int32) (h0 : Heap) (n0 : Nat) (Z0 : n0 ≤ h0.size)  :
    MetFree l (⟨"com/example/winnower/winnower/discrepancy/SimplexMultipliersPinLaw", "pow2", "(I)D"⟩ : MethodName) (head1 (Jvm.Cond.code (⟨"com/example/winnower/winnower/discrepancy/SimplexMultipliersPinLaw", "pow2", "(I)D"⟩ : MethodName) method_2_code 3 (some .double) :: ws) ({ frames := 0, cells := 0, slots := 0, locals := 0 } : Room)) (fun a U => a = #[(.int p0)] ∧ Z.Warmed39 U.vm ∧ U.heap = h0) (fun _ _ _ _ _ => True) (fun _ U o U' => ∃ v L, o = .returned v ∧ Qm1 Z p0 h0 n0 v U'.heap L ∧ FrameEnd U o U' L ({ frames := 0, cells := 0, slots := 0, locals := 0 } : Room).cells ({ frames := 0, cells := 0, slots := 0, locals := 0 } : Room).slots) := by
  refine MetFree.of_bodySF (plainFor_of_name pn0) hisR ?_
  intro p e s m args below meth c s₁ Bd hml0 hP hK
  obtain ⟨rfl, hZ, hh⟩ := hP
  have hx := Bd.exec
  have hby := Bd.bytes
  have hml : c.maxLocals = 3 := hml0
  have hown : s.vm.findClass "com/example/winnower/winnower/discrepancy/SimplexMultipliersPinLaw" = some m.cls := findClass_of_methodNamed Bd.named
  have hnm := (name_of_methodNamed Bd.named Bd.method).1
  have X0 : Stand p l e ({ frames := 0, cells := 0, slots := 0, locals := 0 } : Room) s m #[(.int p0)] below meth c s₁ [] 0 0 := Stand.of_body Bd
  have e0 : s₁.heap = h0 := by rw [← hh, Bd.state]; rfl
  have N0 := Fr.nil n0
  have pre0 : ∀ t, Steps p.tables e below (s₁.setTop (mkF m 0 #[oI p0, oU, oU] [])) t → Steps p.tables e below (s₁.setTop (entryFrame m #[(.int p0)] 3)) t := fun t k => castTop (efm1 m p0) k
  have pre101 : ∀ t, Steps p.tables e below (s₁.setTop (mkF m 12 #[oI p0, .val (.double (FP.i2d ((1 : Int32) <<< (((p0 >>> ((1 : Int32) &&& 31)) &&& (3 : Int32)) &&& 31)))), oV] [(.int (p0 &&& (1 : Int32)))])) t → Steps p.tables e below (s₁.setTop (mkF m 0 #[oI p0, oU, oU] [])) t := by
    intro t kt
    show own_S p e below s₁ m 0 #[oI p0, oU, oU] [] _
    refine XS.iconst X0.here hx rfl (hb hby d1_0) ?_
    refine XS.iloadN X0.here hx rfl (hb hby d1_1) rfl ?_
    refine XS.iconst X0.here hx rfl (hb hby d1_2) ?_
    show own_S p e below s₁ m 3 _ [(.int 1), (.int p0), (.int 1)] _
    refine XS.ishr X0.here hx rfl (hb hby d1_3) rfl ?_
    show own_S p e below s₁ m 4 _ [(.int (p0 >>> ((1 : Int32) &&& 31))), (.int 1)] _
    refine XS.iconst X0.here hx rfl (hb hby d1_4) ?_
    show own_S p e below s₁ m 5 _ [(.int 3), (.int (p0 >>> ((1 : Int32) &&& 31))), (.int 1)] _
    refine XS.iand X0.here hx rfl (hb hby d1_5) rfl ?_
    show own_S p e below s₁ m 6 _ [(.int ((p0 >>> ((1 : Int32) &&& 31)) &&& (3 : Int32))), (.int 1)] _
    refine XS.ishl X0.here hx rfl (hb hby d1_6) rfl ?_
    show own_S p e below s₁ m 7 #[oI p0, oU, oU] [(.int ((1 : Int32) <<< (((p0 >>> ((1 : Int32) &&& 31)) &&& (3 : Int32)) &&& 31)))] _
    refine XS.i2dS X0.here hx rfl (v := (FP.i2d ((1 : Int32) <<< (((p0 >>> ((1 : Int32) &&& 31)) &&& (3 : Int32)) &&& 31)))) (hb hby d1_7) rfl rfl ?_
    show own_S p e below s₁ m 8 _ [(.double (FP.i2d ((1 : Int32) <<< (((p0 >>> ((1 : Int32) &&& 31)) &&& (3 : Int32)) &&& 31))))] _
    refine XS.dstoreN X0.here hx rfl (hb hby d1_8) rfl (l' := #[oI p0, .val (.double (FP.i2d ((1 : Int32) <<< (((p0 >>> ((1 : Int32) &&& 31)) &&& (3 : Int32)) &&& 31)))), oV]) rfl ?_
    refine XS.iloadN X0.here hx rfl (hb hby d1_9) rfl ?_
    refine XS.iconst X0.here hx rfl (hb hby d1_10) ?_
    show own_S p e below s₁ m 11 _ [(.int 1), (.int p0)] _
    refine XS.iand X0.here hx rfl (hb hby d1_11) rfl ?_
    exact kt
  by_cases hs : (p0 &&& (1 : Int32)) = (0 : Int32)
  · skip
    obtain ⟨fs, hr, hrun, hended, hW, hsame⟩ := X0.leave (v := some (.double (FP.i2d ((1 : Int32) <<< (((p0 >>> ((1 : Int32) &&& 31)) &&& (3 : Int32)) &&& 31))))) (fun h => by rw [Bd.returns] at h; cases h)
    refine ⟨_, _, pre0 _ (pre101 _ ?_), hrun, hended, _, _, rfl, ?_, ⟨_, rfl⟩, hW, hsame.mono (by decide) (by decide)⟩
    · show own_S p e below s₁ m 12 #[oI p0, .val (.double (FP.i2d ((1 : Int32) <<< (((p0 >>> ((1 : Int32) &&& 31)) &&& (3 : Int32)) &&& 31)))), oV] [(.int (p0 &&& (1 : Int32)))] _
      refine XS.ifYes X0.here hx rfl (pc0 := 12) (pc' := 20) rfl (hb hby d1_12) rfl ((if0 _ _).trans (teq (hs : (p0 &&& (1 : Int32)) = (0 : Int32))).1) (by decide) (by decide) ?_
      refine XS.dloadN X0.here hx rfl (hb hby d1_20) rfl ?_
      show own_S p e below s₁ m 21 _ [(.double (FP.i2d ((1 : Int32) <<< (((p0 >>> ((1 : Int32) &&& 31)) &&& (3 : Int32)) &&& 31))))] _
      exact retOut X0 hx Bd.returns rfl (Or.inr (Or.inr (Or.inl ⟨rfl, rfl, _, rfl⟩))) (hb hby d1_21) hr
    · show Qm1 Z p0 h0 n0 _ s₁.heap _
      rw [e0]
      exact ⟨(own_p2_t hs), N0, rfl⟩
  · skip
    obtain ⟨fs, hr, hrun, hended, hW, hsame⟩ := X0.leave (v := some (.double (FP.dneg (FP.i2d ((1 : Int32) <<< (((p0 >>> ((1 : Int32) &&& 31)) &&& (3 : Int32)) &&& 31)))))) (fun h => by rw [Bd.returns] at h; cases h)
    refine ⟨_, _, pre0 _ (pre101 _ ?_), hrun, hended, _, _, rfl, ?_, ⟨_, rfl⟩, hW, hsame.mono (by decide) (by decide)⟩
    · show own_S p e below s₁ m 12 #[oI p0, .val (.double (FP.i2d ((1 : Int32) <<< (((p0 >>> ((1 : Int32) &&& 31)) &&& (3 : Int32)) &&& 31)))), oV] [(.int (p0 &&& (1 : Int32)))] _
      refine XS.ifNo X0.here hx rfl (hb hby d1_12) rfl ((if0 _ _).trans (feq (hs : ¬ ((p0 &&& (1 : Int32)) = (0 : Int32)))).1) ?_
      refine XS.dloadN X0.here hx rfl (hb hby d1_15) rfl ?_
      show own_S p e below s₁ m 16 _ [(.double (FP.i2d ((1 : Int32) <<< (((p0 >>> ((1 : Int32) &&& 31)) &&& (3 : Int32)) &&& 31))))] _
      refine XS.dnegS X0.here hx rfl (v := (FP.dneg (FP.i2d ((1 : Int32) <<< (((p0 >>> ((1 : Int32) &&& 31)) &&& (3 : Int32)) &&& 31))))) (hb hby d1_16) rfl rfl ?_
      show own_S p e below s₁ m 17 _ [(.double (FP.dneg (FP.i2d ((1 : Int32) <<< (((p0 >>> ((1 : Int32) &&& 31)) &&& (3 : Int32)) &&& 31)))))] _
      refine XS.goto X0.here hx rfl (pc0 := 17) (pc' := 21) rfl (hb hby d1_17) (by decide) (by decide) ?_
      show own_S p e below s₁ m 21 _ [(.double (FP.dneg (FP.i2d ((1 : Int32) <<< (((p0 >>> ((1 : Int32) &&& 31)) &&& (3 : Int32)) &&& 31)))))] _
      exact retOut X0 hx Bd.returns rfl (Or.inr (Or.inr (Or.inl ⟨rfl, rfl, _, rfl⟩))) (hb hby d1_21) hr
    · show Qm1 Z p0 h0 n0 _ s₁.heap _
      rw [e0]
      exact ⟨(own_p2_f hs), N0, rfl⟩
theorem sn0 {Z : State} {a0 : Array Value} (hw : own_HW Z a0) : Jvm.RoadKit.slotOf Z own_K1 "free" "[Z" ≠ Jvm.RoadKit.slotOf Z own_K1 "costs" "[D" := slot_ne (Or.inl (own_w hw 18 rfl)) (Or.inl (own_w hw 15 rfl)) (by decide) (t := (.array .boolean)) (t' := (.array .double)) (by decide) (by decide)
theorem sn1 {Z : State} {a0 : Array Value} (hw : own_HW Z a0) : Jvm.RoadKit.slotOf Z own_K1 "entryRows" "[[I" ≠ Jvm.RoadKit.slotOf Z own_K1 "costs" "[D" := slot_ne (Or.inl (own_w hw 22 rfl)) (Or.inl (own_w hw 15 rfl)) (by decide) (t := (.array (.array .int))) (t' := (.array .double)) (by decide) (by decide)
theorem sn2 {Z : State} {a0 : Array Value} (hw : own_HW Z a0) : Jvm.RoadKit.slotOf Z own_K1 "entryRows" "[[I" ≠ Jvm.RoadKit.slotOf Z own_K1 "free" "[Z" := slot_ne (Or.inl (own_w hw 22 rfl)) (Or.inl (own_w hw 18 rfl)) (by decide) (t := (.array (.array .int))) (t' := (.array .boolean)) (by decide) (by decide)
theorem sn3 {Z : State} {a0 : Array Value} (hw : own_HW Z a0) : Jvm.RoadKit.slotOf Z own_K1 "entryValues" "[[D" ≠ Jvm.RoadKit.slotOf Z own_K1 "costs" "[D" := slot_ne (Or.inl (own_w hw 26 rfl)) (Or.inl (own_w hw 15 rfl)) (by decide) (t := (.array (.array .double))) (t' := (.array .double)) (by decide) (by decide)
theorem sn4 {Z : State} {a0 : Array Value} (hw : own_HW Z a0) : Jvm.RoadKit.slotOf Z own_K1 "entryValues" "[[D" ≠ Jvm.RoadKit.slotOf Z own_K1 "free" "[Z" := slot_ne (Or.inl (own_w hw 26 rfl)) (Or.inl (own_w hw 18 rfl)) (by decide) (t := (.array (.array .double))) (t' := (.array .boolean)) (by decide) (by decide)
theorem sn5 {Z : State} {a0 : Array Value} (hw : own_HW Z a0) : Jvm.RoadKit.slotOf Z own_K1 "entryValues" "[[D" ≠ Jvm.RoadKit.slotOf Z own_K1 "entryRows" "[[I" := slot_ne (Or.inl (own_w hw 26 rfl)) (Or.inl (own_w hw 22 rfl)) (by decide) (t := (.array (.array .double))) (t' := (.array (.array .int))) (by decide) (by decide)
theorem sn6 {Z : State} {a0 : Array Value} (hw : own_HW Z a0) : Jvm.RoadKit.slotOf Z own_K1 "place" "[I" ≠ Jvm.RoadKit.slotOf Z own_K1 "costs" "[D" := slot_ne (Or.inl (own_w hw 29 rfl)) (Or.inl (own_w hw 15 rfl)) (by decide) (t := (.array .int)) (t' := (.array .double)) (by decide) (by decide)
theorem sn7 {Z : State} {a0 : Array Value} (hw : own_HW Z a0) : Jvm.RoadKit.slotOf Z own_K1 "place" "[I" ≠ Jvm.RoadKit.slotOf Z own_K1 "free" "[Z" := slot_ne (Or.inl (own_w hw 29 rfl)) (Or.inl (own_w hw 18 rfl)) (by decide) (t := (.array .int)) (t' := (.array .boolean)) (by decide) (by decide)
theorem sn8 {Z : State} {a0 : Array Value} (hw : own_HW Z a0) : Jvm.RoadKit.slotOf Z own_K1 "place" "[I" ≠ Jvm.RoadKit.slotOf Z own_K1 "entryRows" "[[I" := slot_ne (Or.inl (own_w hw 29 rfl)) (Or.inl (own_w hw 22 rfl)) (by decide) (t := (.array .int)) (t' := (.array (.array .int))) (by decide) (by decide)
theorem sn9 {Z : State} {a0 : Array Value} (hw : own_HW Z a0) : Jvm.RoadKit.slotOf Z own_K1 "place" "[I" ≠ Jvm.RoadKit.slotOf Z own_K1 "entryValues" "[[D" := slot_ne (Or.inl (own_w hw 29 rfl)) (Or.inl (own_w hw 26 rfl)) (by decide) (t := (.array .int)) (t' := (.array (.array .double))) (by decide) (by decide)
theorem sn10 {Z : State} {a0 : Array Value} (hw : own_HW Z a0) : Jvm.RoadKit.slotOf Z own_K1 "rows" "I" ≠ Jvm.RoadKit.slotOf Z own_K1 "costs" "[D" := slot_ne (Or.inr (own_w hw 31 rfl)) (Or.inl (own_w hw 15 rfl)) (by decide) (t := .int) (t' := (.array .double)) (by decide) (by decide)
theorem sn11 {Z : State} {a0 : Array Value} (hw : own_HW Z a0) : Jvm.RoadKit.slotOf Z own_K1 "rows" "I" ≠ Jvm.RoadKit.slotOf Z own_K1 "free" "[Z" := slot_ne (Or.inr (own_w hw 31 rfl)) (Or.inl (own_w hw 18 rfl)) (by decide) (t := .int) (t' := (.array .boolean)) (by decide) (by decide)
theorem sn12 {Z : State} {a0 : Array Value} (hw : own_HW Z a0) : Jvm.RoadKit.slotOf Z own_K1 "rows" "I" ≠ Jvm.RoadKit.slotOf Z own_K1 "entryRows" "[[I" := slot_ne (Or.inr (own_w hw 31 rfl)) (Or.inl (own_w hw 22 rfl)) (by decide) (t := .int) (t' := (.array (.array .int))) (by decide) (by decide)
theorem sn13 {Z : State} {a0 : Array Value} (hw : own_HW Z a0) : Jvm.RoadKit.slotOf Z own_K1 "rows" "I" ≠ Jvm.RoadKit.slotOf Z own_K1 "entryValues" "[[D" := slot_ne (Or.inr (own_w hw 31 rfl)) (Or.inl (own_w hw 26 rfl)) (by decide) (t := .int) (t' := (.array (.array .double))) (by decide) (by decide)
theorem sn14 {Z : State} {a0 : Array Value} (hw : own_HW Z a0) : Jvm.RoadKit.slotOf Z own_K1 "rows" "I" ≠ Jvm.RoadKit.slotOf Z own_K1 "place" "[I" := slot_ne (Or.inr (own_w hw 31 rfl)) (Or.inl (own_w hw 29 rfl)) (by decide) (t := .int) (t' := (.array .int)) (by decide) (by decide)
theorem sn15 {Z : State} {a0 : Array Value} (hw : own_HW Z a0) : Jvm.RoadKit.slotOf Z own_K1 "rhs" "[D" ≠ Jvm.RoadKit.slotOf Z own_K1 "costs" "[D" := slot_ne (Or.inr (own_w hw 41 rfl)) (Or.inl (own_w hw 15 rfl)) (by decide) (t := (.array .double)) (t' := (.array .double)) (by decide) (by decide)
theorem sn16 {Z : State} {a0 : Array Value} (hw : own_HW Z a0) : Jvm.RoadKit.slotOf Z own_K1 "rhs" "[D" ≠ Jvm.RoadKit.slotOf Z own_K1 "free" "[Z" := slot_ne (Or.inr (own_w hw 41 rfl)) (Or.inl (own_w hw 18 rfl)) (by decide) (t := (.array .double)) (t' := (.array .boolean)) (by decide) (by decide)
theorem sn17 {Z : State} {a0 : Array Value} (hw : own_HW Z a0) : Jvm.RoadKit.slotOf Z own_K1 "rhs" "[D" ≠ Jvm.RoadKit.slotOf Z own_K1 "entryRows" "[[I" := slot_ne (Or.inr (own_w hw 41 rfl)) (Or.inl (own_w hw 22 rfl)) (by decide) (t := (.array .double)) (t' := (.array (.array .int))) (by decide) (by decide)
theorem sn18 {Z : State} {a0 : Array Value} (hw : own_HW Z a0) : Jvm.RoadKit.slotOf Z own_K1 "rhs" "[D" ≠ Jvm.RoadKit.slotOf Z own_K1 "entryValues" "[[D" := slot_ne (Or.inr (own_w hw 41 rfl)) (Or.inl (own_w hw 26 rfl)) (by decide) (t := (.array .double)) (t' := (.array (.array .double))) (by decide) (by decide)
theorem sn19 {Z : State} {a0 : Array Value} (hw : own_HW Z a0) : Jvm.RoadKit.slotOf Z own_K1 "rhs" "[D" ≠ Jvm.RoadKit.slotOf Z own_K1 "place" "[I" := slot_ne (Or.inr (own_w hw 41 rfl)) (Or.inl (own_w hw 29 rfl)) (by decide) (t := (.array .double)) (t' := (.array .int)) (by decide) (by decide)
theorem sn20 {Z : State} {a0 : Array Value} (hw : own_HW Z a0) : Jvm.RoadKit.slotOf Z own_K1 "rhs" "[D" ≠ Jvm.RoadKit.slotOf Z own_K1 "rows" "I" := slot_ne (Or.inr (own_w hw 41 rfl)) (Or.inr (own_w hw 31 rfl)) (by decide) (t := (.array .double)) (t' := .int) (by decide) (by decide)
theorem sn21 {Z : State} {a0 : Array Value} (hw : own_HW Z a0) : Jvm.RoadKit.slotOf Z own_K1 "basic" "[I" ≠ Jvm.RoadKit.slotOf Z own_K1 "costs" "[D" := slot_ne (Or.inr (own_w hw 43 rfl)) (Or.inl (own_w hw 15 rfl)) (by decide) (t := (.array .int)) (t' := (.array .double)) (by decide) (by decide)
theorem sn22 {Z : State} {a0 : Array Value} (hw : own_HW Z a0) : Jvm.RoadKit.slotOf Z own_K1 "basic" "[I" ≠ Jvm.RoadKit.slotOf Z own_K1 "free" "[Z" := slot_ne (Or.inr (own_w hw 43 rfl)) (Or.inl (own_w hw 18 rfl)) (by decide) (t := (.array .int)) (t' := (.array .boolean)) (by decide) (by decide)
theorem sn23 {Z : State} {a0 : Array Value} (hw : own_HW Z a0) : Jvm.RoadKit.slotOf Z own_K1 "basic" "[I" ≠ Jvm.RoadKit.slotOf Z own_K1 "entryRows" "[[I" := slot_ne (Or.inr (own_w hw 43 rfl)) (Or.inl (own_w hw 22 rfl)) (by decide) (t := (.array .int)) (t' := (.array (.array .int))) (by decide) (by decide)
theorem sn24 {Z : State} {a0 : Array Value} (hw : own_HW Z a0) : Jvm.RoadKit.slotOf Z own_K1 "basic" "[I" ≠ Jvm.RoadKit.slotOf Z own_K1 "entryValues" "[[D" := slot_ne (Or.inr (own_w hw 43 rfl)) (Or.inl (own_w hw 26 rfl)) (by decide) (t := (.array .int)) (t' := (.array (.array .double))) (by decide) (by decide)
theorem sn25 {Z : State} {a0 : Array Value} (hw : own_HW Z a0) : Jvm.RoadKit.slotOf Z own_K1 "basic" "[I" ≠ Jvm.RoadKit.slotOf Z own_K1 "place" "[I" := slot_ne (Or.inr (own_w hw 43 rfl)) (Or.inl (own_w hw 29 rfl)) (by decide) (t := (.array .int)) (t' := (.array .int)) (by decide) (by decide)
theorem sn26 {Z : State} {a0 : Array Value} (hw : own_HW Z a0) : Jvm.RoadKit.slotOf Z own_K1 "basic" "[I" ≠ Jvm.RoadKit.slotOf Z own_K1 "rows" "I" := slot_ne (Or.inr (own_w hw 43 rfl)) (Or.inr (own_w hw 31 rfl)) (by decide) (t := (.array .int)) (t' := .int) (by decide) (by decide)
theorem sn27 {Z : State} {a0 : Array Value} (hw : own_HW Z a0) : Jvm.RoadKit.slotOf Z own_K1 "basic" "[I" ≠ Jvm.RoadKit.slotOf Z own_K1 "rhs" "[D" := slot_ne (Or.inr (own_w hw 43 rfl)) (Or.inr (own_w hw 41 rfl)) (by decide) (t := (.array .int)) (t' := (.array .double)) (by decide) (by decide)
theorem sn28 {Z : State} {a0 : Array Value} (hw : own_HW Z a0) : Jvm.RoadKit.slotOf Z own_K1 "inverse" "[[D" ≠ Jvm.RoadKit.slotOf Z own_K1 "costs" "[D" := slot_ne (Or.inr (own_w hw 46 rfl)) (Or.inl (own_w hw 15 rfl)) (by decide) (t := (.array (.array .double))) (t' := (.array .double)) (by decide) (by decide)
theorem sn29 {Z : State} {a0 : Array Value} (hw : own_HW Z a0) : Jvm.RoadKit.slotOf Z own_K1 "inverse" "[[D" ≠ Jvm.RoadKit.slotOf Z own_K1 "free" "[Z" := slot_ne (Or.inr (own_w hw 46 rfl)) (Or.inl (own_w hw 18 rfl)) (by decide) (t := (.array (.array .double))) (t' := (.array .boolean)) (by decide) (by decide)
theorem sn30 {Z : State} {a0 : Array Value} (hw : own_HW Z a0) : Jvm.RoadKit.slotOf Z own_K1 "inverse" "[[D" ≠ Jvm.RoadKit.slotOf Z own_K1 "entryRows" "[[I" := slot_ne (Or.inr (own_w hw 46 rfl)) (Or.inl (own_w hw 22 rfl)) (by decide) (t := (.array (.array .double))) (t' := (.array (.array .int))) (by decide) (by decide)
theorem sn31 {Z : State} {a0 : Array Value} (hw : own_HW Z a0) : Jvm.RoadKit.slotOf Z own_K1 "inverse" "[[D" ≠ Jvm.RoadKit.slotOf Z own_K1 "entryValues" "[[D" := slot_ne (Or.inr (own_w hw 46 rfl)) (Or.inl (own_w hw 26 rfl)) (by decide) (t := (.array (.array .double))) (t' := (.array (.array .double))) (by decide) (by decide)
theorem sn32 {Z : State} {a0 : Array Value} (hw : own_HW Z a0) : Jvm.RoadKit.slotOf Z own_K1 "inverse" "[[D" ≠ Jvm.RoadKit.slotOf Z own_K1 "place" "[I" := slot_ne (Or.inr (own_w hw 46 rfl)) (Or.inl (own_w hw 29 rfl)) (by decide) (t := (.array (.array .double))) (t' := (.array .int)) (by decide) (by decide)
theorem sn33 {Z : State} {a0 : Array Value} (hw : own_HW Z a0) : Jvm.RoadKit.slotOf Z own_K1 "inverse" "[[D" ≠ Jvm.RoadKit.slotOf Z own_K1 "rows" "I" := slot_ne (Or.inr (own_w hw 46 rfl)) (Or.inr (own_w hw 31 rfl)) (by decide) (t := (.array (.array .double))) (t' := .int) (by decide) (by decide)
theorem sn34 {Z : State} {a0 : Array Value} (hw : own_HW Z a0) : Jvm.RoadKit.slotOf Z own_K1 "inverse" "[[D" ≠ Jvm.RoadKit.slotOf Z own_K1 "rhs" "[D" := slot_ne (Or.inr (own_w hw 46 rfl)) (Or.inr (own_w hw 41 rfl)) (by decide) (t := (.array (.array .double))) (t' := (.array .double)) (by decide) (by decide)
theorem sn35 {Z : State} {a0 : Array Value} (hw : own_HW Z a0) : Jvm.RoadKit.slotOf Z own_K1 "inverse" "[[D" ≠ Jvm.RoadKit.slotOf Z own_K1 "basic" "[I" := slot_ne (Or.inr (own_w hw 46 rfl)) (Or.inr (own_w hw 43 rfl)) (by decide) (t := (.array (.array .double))) (t' := (.array .int)) (by decide) (by decide)
theorem sn36 {Z : State} {a0 : Array Value} (hw : own_HW Z a0) : Jvm.RoadKit.slotOf Z own_K1 "values" "[D" ≠ Jvm.RoadKit.slotOf Z own_K1 "costs" "[D" := slot_ne (Or.inr (own_w hw 48 rfl)) (Or.inl (own_w hw 15 rfl)) (by decide) (t := (.array .double)) (t' := (.array .double)) (by decide) (by decide)
theorem sn37 {Z : State} {a0 : Array Value} (hw : own_HW Z a0) : Jvm.RoadKit.slotOf Z own_K1 "values" "[D" ≠ Jvm.RoadKit.slotOf Z own_K1 "free" "[Z" := slot_ne (Or.inr (own_w hw 48 rfl)) (Or.inl (own_w hw 18 rfl)) (by decide) (t := (.array .double)) (t' := (.array .boolean)) (by decide) (by decide)
theorem sn38 {Z : State} {a0 : Array Value} (hw : own_HW Z a0) : Jvm.RoadKit.slotOf Z own_K1 "values" "[D" ≠ Jvm.RoadKit.slotOf Z own_K1 "entryRows" "[[I" := slot_ne (Or.inr (own_w hw 48 rfl)) (Or.inl (own_w hw 22 rfl)) (by decide) (t := (.array .double)) (t' := (.array (.array .int))) (by decide) (by decide)
theorem sn39 {Z : State} {a0 : Array Value} (hw : own_HW Z a0) : Jvm.RoadKit.slotOf Z own_K1 "values" "[D" ≠ Jvm.RoadKit.slotOf Z own_K1 "entryValues" "[[D" := slot_ne (Or.inr (own_w hw 48 rfl)) (Or.inl (own_w hw 26 rfl)) (by decide) (t := (.array .double)) (t' := (.array (.array .double))) (by decide) (by decide)
theorem sn40 {Z : State} {a0 : Array Value} (hw : own_HW Z a0) : Jvm.RoadKit.slotOf Z own_K1 "values" "[D" ≠ Jvm.RoadKit.slotOf Z own_K1 "place" "[I" := slot_ne (Or.inr (own_w hw 48 rfl)) (Or.inl (own_w hw 29 rfl)) (by decide) (t := (.array .double)) (t' := (.array .int)) (by decide) (by decide)
theorem sn41 {Z : State} {a0 : Array Value} (hw : own_HW Z a0) : Jvm.RoadKit.slotOf Z own_K1 "values" "[D" ≠ Jvm.RoadKit.slotOf Z own_K1 "rows" "I" := slot_ne (Or.inr (own_w hw 48 rfl)) (Or.inr (own_w hw 31 rfl)) (by decide) (t := (.array .double)) (t' := .int) (by decide) (by decide)
theorem sn42 {Z : State} {a0 : Array Value} (hw : own_HW Z a0) : Jvm.RoadKit.slotOf Z own_K1 "values" "[D" ≠ Jvm.RoadKit.slotOf Z own_K1 "rhs" "[D" := slot_ne (Or.inr (own_w hw 48 rfl)) (Or.inr (own_w hw 41 rfl)) (by decide) (t := (.array .double)) (t' := (.array .double)) (by decide) (by decide)
theorem sn43 {Z : State} {a0 : Array Value} (hw : own_HW Z a0) : Jvm.RoadKit.slotOf Z own_K1 "values" "[D" ≠ Jvm.RoadKit.slotOf Z own_K1 "basic" "[I" := slot_ne (Or.inr (own_w hw 48 rfl)) (Or.inr (own_w hw 43 rfl)) (by decide) (t := (.array .double)) (t' := (.array .int)) (by decide) (by decide)
theorem sn44 {Z : State} {a0 : Array Value} (hw : own_HW Z a0) : Jvm.RoadKit.slotOf Z own_K1 "values" "[D" ≠ Jvm.RoadKit.slotOf Z own_K1 "inverse" "[[D" := slot_ne (Or.inr (own_w hw 48 rfl)) (Or.inr (own_w hw 46 rfl)) (by decide) (t := (.array .double)) (t' := (.array (.array .double))) (by decide) (by decide)
theorem sn45 {Z : State} {a0 : Array Value} (hw : own_HW Z a0) : Jvm.RoadKit.slotOf Z own_K1 "columns" "I" ≠ Jvm.RoadKit.slotOf Z own_K1 "costs" "[D" := slot_ne (Or.inl (own_w hw 56 rfl)) (Or.inl (own_w hw 15 rfl)) (by decide) (t := .int) (t' := (.array .double)) (by decide) (by decide)
theorem sn46 {Z : State} {a0 : Array Value} (hw : own_HW Z a0) : Jvm.RoadKit.slotOf Z own_K1 "columns" "I" ≠ Jvm.RoadKit.slotOf Z own_K1 "free" "[Z" := slot_ne (Or.inl (own_w hw 56 rfl)) (Or.inl (own_w hw 18 rfl)) (by decide) (t := .int) (t' := (.array .boolean)) (by decide) (by decide)
theorem sn47 {Z : State} {a0 : Array Value} (hw : own_HW Z a0) : Jvm.RoadKit.slotOf Z own_K1 "columns" "I" ≠ Jvm.RoadKit.slotOf Z own_K1 "entryRows" "[[I" := slot_ne (Or.inl (own_w hw 56 rfl)) (Or.inl (own_w hw 22 rfl)) (by decide) (t := .int) (t' := (.array (.array .int))) (by decide) (by decide)
theorem sn48 {Z : State} {a0 : Array Value} (hw : own_HW Z a0) : Jvm.RoadKit.slotOf Z own_K1 "columns" "I" ≠ Jvm.RoadKit.slotOf Z own_K1 "entryValues" "[[D" := slot_ne (Or.inl (own_w hw 56 rfl)) (Or.inl (own_w hw 26 rfl)) (by decide) (t := .int) (t' := (.array (.array .double))) (by decide) (by decide)
theorem sn49 {Z : State} {a0 : Array Value} (hw : own_HW Z a0) : Jvm.RoadKit.slotOf Z own_K1 "columns" "I" ≠ Jvm.RoadKit.slotOf Z own_K1 "place" "[I" := slot_ne (Or.inl (own_w hw 56 rfl)) (Or.inl (own_w hw 29 rfl)) (by decide) (t := .int) (t' := (.array .int)) (by decide) (by decide)
theorem sn50 {Z : State} {a0 : Array Value} (hw : own_HW Z a0) : Jvm.RoadKit.slotOf Z own_K1 "columns" "I" ≠ Jvm.RoadKit.slotOf Z own_K1 "rows" "I" := slot_ne (Or.inl (own_w hw 56 rfl)) (Or.inr (own_w hw 31 rfl)) (by decide) (t := .int) (t' := .int) (by decide) (by decide)
theorem sn51 {Z : State} {a0 : Array Value} (hw : own_HW Z a0) : Jvm.RoadKit.slotOf Z own_K1 "columns" "I" ≠ Jvm.RoadKit.slotOf Z own_K1 "rhs" "[D" := slot_ne (Or.inl (own_w hw 56 rfl)) (Or.inr (own_w hw 41 rfl)) (by decide) (t := .int) (t' := (.array .double)) (by decide) (by decide)
theorem sn52 {Z : State} {a0 : Array Value} (hw : own_HW Z a0) : Jvm.RoadKit.slotOf Z own_K1 "columns" "I" ≠ Jvm.RoadKit.slotOf Z own_K1 "basic" "[I" := slot_ne (Or.inl (own_w hw 56 rfl)) (Or.inr (own_w hw 43 rfl)) (by decide) (t := .int) (t' := (.array .int)) (by decide) (by decide)
theorem sn53 {Z : State} {a0 : Array Value} (hw : own_HW Z a0) : Jvm.RoadKit.slotOf Z own_K1 "columns" "I" ≠ Jvm.RoadKit.slotOf Z own_K1 "inverse" "[[D" := slot_ne (Or.inl (own_w hw 56 rfl)) (Or.inr (own_w hw 46 rfl)) (by decide) (t := .int) (t' := (.array (.array .double))) (by decide) (by decide)
theorem sn54 {Z : State} {a0 : Array Value} (hw : own_HW Z a0) : Jvm.RoadKit.slotOf Z own_K1 "columns" "I" ≠ Jvm.RoadKit.slotOf Z own_K1 "values" "[D" := slot_ne (Or.inl (own_w hw 56 rfl)) (Or.inr (own_w hw 48 rfl)) (by decide) (t := .int) (t' := (.array .double)) (by decide) (by decide)
theorem sn55 {Z : State} {a0 : Array Value} (hw : own_HW Z a0) : Jvm.RoadKit.slotOf Z own_K1 "pivotsSinceRefresh" "I" ≠ Jvm.RoadKit.slotOf Z own_K1 "costs" "[D" := slot_ne (Or.inl (own_w hw 84 rfl)) (Or.inl (own_w hw 15 rfl)) (by decide) (t := .int) (t' := (.array .double)) (by decide) (by decide)
theorem sn56 {Z : State} {a0 : Array Value} (hw : own_HW Z a0) : Jvm.RoadKit.slotOf Z own_K1 "pivotsSinceRefresh" "I" ≠ Jvm.RoadKit.slotOf Z own_K1 "free" "[Z" := slot_ne (Or.inl (own_w hw 84 rfl)) (Or.inl (own_w hw 18 rfl)) (by decide) (t := .int) (t' := (.array .boolean)) (by decide) (by decide)
theorem sn57 {Z : State} {a0 : Array Value} (hw : own_HW Z a0) : Jvm.RoadKit.slotOf Z own_K1 "pivotsSinceRefresh" "I" ≠ Jvm.RoadKit.slotOf Z own_K1 "entryRows" "[[I" := slot_ne (Or.inl (own_w hw 84 rfl)) (Or.inl (own_w hw 22 rfl)) (by decide) (t := .int) (t' := (.array (.array .int))) (by decide) (by decide)
theorem sn58 {Z : State} {a0 : Array Value} (hw : own_HW Z a0) : Jvm.RoadKit.slotOf Z own_K1 "pivotsSinceRefresh" "I" ≠ Jvm.RoadKit.slotOf Z own_K1 "entryValues" "[[D" := slot_ne (Or.inl (own_w hw 84 rfl)) (Or.inl (own_w hw 26 rfl)) (by decide) (t := .int) (t' := (.array (.array .double))) (by decide) (by decide)
theorem sn59 {Z : State} {a0 : Array Value} (hw : own_HW Z a0) : Jvm.RoadKit.slotOf Z own_K1 "pivotsSinceRefresh" "I" ≠ Jvm.RoadKit.slotOf Z own_K1 "place" "[I" := slot_ne (Or.inl (own_w hw 84 rfl)) (Or.inl (own_w hw 29 rfl)) (by decide) (t := .int) (t' := (.array .int)) (by decide) (by decide)
theorem sn60 {Z : State} {a0 : Array Value} (hw : own_HW Z a0) : Jvm.RoadKit.slotOf Z own_K1 "pivotsSinceRefresh" "I" ≠ Jvm.RoadKit.slotOf Z own_K1 "rows" "I" := slot_ne (Or.inl (own_w hw 84 rfl)) (Or.inr (own_w hw 31 rfl)) (by decide) (t := .int) (t' := .int) (by decide) (by decide)
theorem sn61 {Z : State} {a0 : Array Value} (hw : own_HW Z a0) : Jvm.RoadKit.slotOf Z own_K1 "pivotsSinceRefresh" "I" ≠ Jvm.RoadKit.slotOf Z own_K1 "rhs" "[D" := slot_ne (Or.inl (own_w hw 84 rfl)) (Or.inr (own_w hw 41 rfl)) (by decide) (t := .int) (t' := (.array .double)) (by decide) (by decide)
theorem sn62 {Z : State} {a0 : Array Value} (hw : own_HW Z a0) : Jvm.RoadKit.slotOf Z own_K1 "pivotsSinceRefresh" "I" ≠ Jvm.RoadKit.slotOf Z own_K1 "basic" "[I" := slot_ne (Or.inl (own_w hw 84 rfl)) (Or.inr (own_w hw 43 rfl)) (by decide) (t := .int) (t' := (.array .int)) (by decide) (by decide)
theorem sn63 {Z : State} {a0 : Array Value} (hw : own_HW Z a0) : Jvm.RoadKit.slotOf Z own_K1 "pivotsSinceRefresh" "I" ≠ Jvm.RoadKit.slotOf Z own_K1 "inverse" "[[D" := slot_ne (Or.inl (own_w hw 84 rfl)) (Or.inr (own_w hw 46 rfl)) (by decide) (t := .int) (t' := (.array (.array .double))) (by decide) (by decide)
theorem sn64 {Z : State} {a0 : Array Value} (hw : own_HW Z a0) : Jvm.RoadKit.slotOf Z own_K1 "pivotsSinceRefresh" "I" ≠ Jvm.RoadKit.slotOf Z own_K1 "values" "[D" := slot_ne (Or.inl (own_w hw 84 rfl)) (Or.inr (own_w hw 48 rfl)) (by decide) (t := .int) (t' := (.array .double)) (by decide) (by decide)
theorem d2_0 : decode k2 0 = .ok (.aload_n 0, 1) := by decide +kernel
theorem d2_1 : decode k2 1 = .ok (.invokespecial 1, 3) := by decide +kernel
theorem d2_4 : decode k2 4 = .ok (.aload_n 0, 1) := by decide +kernel
theorem d2_5 : decode k2 5 = .ok (.bipush 16, 2) := by decide +kernel
theorem d2_7 : decode k2 7 = .ok (.newarray .double, 2) := by decide +kernel
theorem d2_9 : decode k2 9 = .ok (.putfield 7, 3) := by decide +kernel
theorem d2_12 : decode k2 12 = .ok (.aload_n 0, 1) := by decide +kernel
theorem d2_13 : decode k2 13 = .ok (.bipush 16, 2) := by decide +kernel
theorem d2_15 : decode k2 15 = .ok (.newarray .boolean, 2) := by decide +kernel
theorem d2_17 : decode k2 17 = .ok (.putfield 13, 3) := by decide +kernel
theorem d2_20 : decode k2 20 = .ok (.aload_n 0, 1) := by decide +kernel
theorem d2_21 : decode k2 21 = .ok (.bipush 16, 2) := by decide +kernel
theorem d2_23 : decode k2 23 = .ok (.anewarray 17, 3) := by decide +kernel
theorem d2_26 : decode k2 26 = .ok (.putfield 19, 3) := by decide +kernel
theorem d2_29 : decode k2 29 = .ok (.aload_n 0, 1) := by decide +kernel
theorem d2_30 : decode k2 30 = .ok (.bipush 16, 2) := by decide +kernel
theorem d2_32 : decode k2 32 = .ok (.anewarray 23, 3) := by decide +kernel
theorem d2_35 : decode k2 35 = .ok (.putfield 24, 3) := by decide +kernel
theorem d2_38 : decode k2 38 = .ok (.aload_n 0, 1) := by decide +kernel
theorem d2_39 : decode k2 39 = .ok (.bipush 16, 2) := by decide +kernel
theorem d2_41 : decode k2 41 = .ok (.newarray .int, 2) := by decide +kernel
theorem d2_43 : decode k2 43 = .ok (.putfield 28, 3) := by decide +kernel
theorem d2_46 : decode k2 46 = .ok (.aload_n 0, 1) := by decide +kernel
theorem d2_47 : decode k2 47 = .ok (.aload_n 1, 1) := by decide +kernel
theorem d2_48 : decode k2 48 = .ok (.arraylength, 1) := by decide +kernel
theorem d2_49 : decode k2 49 = .ok (.putfield 31, 3) := by decide +kernel
theorem d2_52 : decode k2 52 = .ok (.aload_n 0, 1) := by decide +kernel
theorem d2_53 : decode k2 53 = .ok (.aload_n 1, 1) := by decide +kernel
theorem d2_54 : decode k2 54 = .ok (.invokevirtual 35, 3) := by decide +kernel
theorem d2_57 : decode k2 57 = .ok (.checkcast 23, 3) := by decide +kernel
theorem d2_60 : decode k2 60 = .ok (.putfield 39, 3) := by decide +kernel
theorem d2_63 : decode k2 63 = .ok (.aload_n 0, 1) := by decide +kernel
theorem d2_64 : decode k2 64 = .ok (.aload_n 0, 1) := by decide +kernel
theorem d2_65 : decode k2 65 = .ok (.getfield 31, 3) := by decide +kernel
theorem d2_68 : decode k2 68 = .ok (.newarray .int, 2) := by decide +kernel
theorem d2_70 : decode k2 70 = .ok (.putfield 42, 3) := by decide +kernel
theorem d2_73 : decode k2 73 = .ok (.aload_n 0, 1) := by decide +kernel
theorem d2_74 : decode k2 74 = .ok (.aload_n 0, 1) := by decide +kernel
theorem d2_75 : decode k2 75 = .ok (.getfield 31, 3) := by decide +kernel
theorem d2_78 : decode k2 78 = .ok (.aload_n 0, 1) := by decide +kernel
theorem d2_79 : decode k2 79 = .ok (.getfield 31, 3) := by decide +kernel
theorem d2_82 : decode k2 82 = .ok (.multianewarray 45 2, 4) := by decide +kernel
theorem d2_86 : decode k2 86 = .ok (.putfield 46, 3) := by decide +kernel
theorem d2_89 : decode k2 89 = .ok (.aload_n 0, 1) := by decide +kernel
theorem d2_90 : decode k2 90 = .ok (.aload_n 0, 1) := by decide +kernel
theorem d2_91 : decode k2 91 = .ok (.getfield 31, 3) := by decide +kernel
theorem d2_94 : decode k2 94 = .ok (.newarray .double, 2) := by decide +kernel
theorem d2_96 : decode k2 96 = .ok (.putfield 49, 3) := by decide +kernel
theorem d2_99 : decode k2 99 = .ok (.return_, 1) := by decide +kernel
theorem pn1 : plainName own_K1 = true := by first | (simp [plainName, overriddenIn]; done) | decide +kernel
theorem efm2 (m : MethodId) (r0 : Addr) (r1 : Addr) : entryFrame m #[(.ref r0), (.ref r1)] 2 = mkF m 0 #[oR r0, oR r1] [] := by first | (simp [entryFrame, mkF, argsToLocals, Value.category]; done) | rfl
def Qm2 (Z : State) (r0 : Addr) (r1 : Addr) (k1 : ClassId) (g0 : UInt64) (g1 : UInt64) (h0 : Heap) (n0 : Nat) (v : Option Value) (h : Heap) (L : List Loc) : Prop := ∃ co : Addr, ∃ fr : Addr, ∃ er : Addr, ∃ ev : Addr, ∃ pl : Addr, ∃ rh : Addr, ∃ ba : Addr, ∃ ri : Addr, ∃ va : Addr, ∃ i0 : Addr, ∃ i1 : Addr, ∃ kco : ClassId, ∃ kfr : ClassId, ∃ ker : ClassId, ∃ kev : ClassId, ∃ kpl : ClassId, ∃ krh : ClassId, ∃ kba : ClassId, ∃ kri : ClassId, ∃ kva : ClassId, ∃ ki : ClassId, v = none ∧ Fr n0 L ∧ (Keep h0 h [r0]) ∧ (h0.size ≤ co) ∧ (h0.size ≤ fr) ∧ (h0.size ≤ er) ∧ (h0.size ≤ ev) ∧ (h0.size ≤ pl) ∧ (h0.size ≤ rh) ∧ (h0.size ≤ ba) ∧ (h0.size ≤ ri) ∧ (h0.size ≤ va) ∧ (h0.size ≤ i0) ∧ (h0.size ≤ i1) ∧ (Arv Z h co kco .double (16 : Int32) [(.double 0), (.double 0), (.double 0)] (.double 0)) ∧ (Arv Z h fr kfr .boolean (16 : Int32) [(.int 0), (.int 0), (.int 0)] (.int 0)) ∧ (Arv Z h er ker (.array .int) (16 : Int32) [.null, .null, .null] .null) ∧ (Arv Z h ev kev (.array .double) (16 : Int32) [.null, .null, .null] .null) ∧ (Arv Z h pl kpl .int (16 : Int32) [(.int 0), (.int 0), (.int 0)] (.int 0)) ∧ (Arv Z h rh krh .double (2 : Int32) [(.double g0), (.double g1)] (.double 0)) ∧ (Arv Z h ba kba .int (2 : Int32) [(.int 0), (.int 0)] (.int 0)) ∧ (Arv Z h ri kri (.array .double) (2 : Int32) [(.ref i0), (.ref i1)] .null) ∧ (Arv Z h i0 ki .double (2 : Int32) [(.double 0), (.double 0)] (.double 0)) ∧ (Arv Z h i1 ki .double (2 : Int32) [(.double 0), (.double 0)] (.double 0)) ∧ (Arv Z h va kva .double (2 : Int32) [(.double 0), (.double 0)] (.double 0)) ∧ (Exa Z h co "[D") ∧ (Exa Z h fr "[Z") ∧ (Exa Z h er "[[I") ∧ (Exa Z h ev "[[D") ∧ (Exa Z h pl "[I") ∧ (Exa Z h rh "[D") ∧ (Exa Z h ba "[I") ∧ (Exa Z h ri "[[D") ∧ (Exa Z h va "[D") ∧ (Exa Z h i0 "[D") ∧ (Exa Z h i1 "[D") ∧ (OvrA Z ker .int "[I") ∧ (OvrA Z kev .double "[D") ∧ (OvrA Z kri .double "[D") ∧ (Fld Z h r0 own_K1 "costs" "[D" (.ref co)) ∧ (Fld Z h r0 own_K1 "free" "[Z" (.ref fr)) ∧ (Fld Z h r0 own_K1 "entryRows" "[[I" (.ref er)) ∧ (Fld Z h r0 own_K1 "entryValues" "[[D" (.ref ev)) ∧ (Fld Z h r0 own_K1 "place" "[I" (.ref pl)) ∧ (Fld Z h r0 own_K1 "rows" "I" (.int 2)) ∧ (Fld Z h r0 own_K1 "rhs" "[D" (.ref rh)) ∧ (Fld Z h r0 own_K1 "basic" "[I" (.ref ba)) ∧ (Fld Z h r0 own_K1 "inverse" "[[D" (.ref ri)) ∧ (Fld Z h r0 own_K1 "values" "[D" (.ref va)) ∧ (Fld Z h r0 own_K1 "columns" "I" (.int 0)) ∧ (Fld Z h r0 own_K1 "pivotsSinceRefresh" "I" (.int 0)) ∧ (Exa Z h r0 own_K1) ∧ (i0 ≠ i1) ∧ (va ≠ i0) ∧ (va ≠ i1) ∧ (rh ≠ i0) ∧ (rh ≠ i1) ∧ (rh ≠ va) ∧ (co ≠ i0) ∧ (co ≠ i1) ∧ (co ≠ va) ∧ (rh ≠ co) ∧ (ba ≠ pl) ∧ (ri ≠ ev)
set_option maxRecDepth 65536 in
set_option maxHeartbeats 40000000 in
theorem rmm2 (l : Launch) (Z : State) (a0 : Array Value) (hw : own_HW Z a0) (ws : List Jvm.Cond) (r0 : Addr) (r1 : Addr) (k1 : ClassId) (g0 : UInt64) (g1 : UInt64) (h0 : Heap) (n0 : Nat) (Z0 : n0 ≤ h0.size) (F_costs_r0 : Fld Z h0 r0 own_K1 "costs" "[D" .null) (F_free_r0 : Fld Z h0 r0 own_K1 "free" "[Z" .null) (F_entryRows_r0 : Fld Z h0 r0 own_K1 "entryRows" "[[I" .null) (F_entryValues_r0 : Fld Z h0 r0 own_K1 "entryValues" "[[D" .null) (F_place_r0 : Fld Z h0 r0 own_K1 "place" "[I" .null) (F_rows_r0 : Fld Z h0 r0 own_K1 "rows" "I" (.int 0)) (F_rhs_r0 : Fld Z h0 r0 own_K1 "rhs" "[D" .null) (F_basic_r0 : Fld Z h0 r0 own_K1 "basic" "[I" .null) (F_inverse_r0 : Fld Z h0 r0 own_K1 "inverse" "[[D" .null) (F_values_r0 : Fld Z h0 r0 own_K1 "values" "[D" .null) (F_columns_r0 : Fld Z h0 r0 own_K1 "columns" "I" (.int 0)) (F_pivotsSinceRefresh_r0 : Fld Z h0 r0 own_K1 "pivotsSinceRefresh" "I" (.int 0)) (E_r0 : Exa Z h0 r0 own_K1) (g_r0 : n0 ≤ r0) (V_r1 : Arv Z h0 r1 k1 .double (2 : Int32) [(.double g0), (.double g1)] (.double 0)) (E_r1 : Exa Z h0 r1 "[D") :
    MetFree l (⟨own_K1, "<init>", "([D)V"⟩ : MethodName) (head1 (Jvm.Cond.code (⟨own_K1, "<init>", "([D)V"⟩ : MethodName) prog_41_method_1_code 2 none :: ws) ({ frames := 1, cells := 11, slots := 92, locals := 15 } : Room)) (fun a U => a = #[(.ref r0), (.ref r1)] ∧ Z.Warmed39 U.vm ∧ U.heap = h0) (fun _ _ _ _ _ => True) (fun _ U o U' => ∃ v L, o = .returned v ∧ Qm2 Z r0 r1 k1 g0 g1 h0 n0 v U'.heap L ∧ FrameEnd U o U' L ({ frames := 1, cells := 11, slots := 92, locals := 15 } : Room).cells ({ frames := 1, cells := 11, slots := 92, locals := 15 } : Room).slots) := by
  refine MetFree.of_bodySF (plainFor_of_name pn1) hisR ?_
  intro p e s m args below meth c s₁ Bd hml0 hP hK
  obtain ⟨rfl, hZ, hh⟩ := hP
  have hx := Bd.exec
  have hby := Bd.bytes
  have hml : c.maxLocals = 2 := hml0
  have hown : s.vm.findClass own_K1 = some m.cls := findClass_of_methodNamed Bd.named
  have hnm := (name_of_methodNamed Bd.named Bd.method).1
  have X0 : Stand p l e ({ frames := 1, cells := 11, slots := 92, locals := 15 } : Room) s m #[(.ref r0), (.ref r1)] below meth c s₁ [] 0 0 := Stand.of_body Bd
  have e0 : s₁.heap = h0 := by rw [← hh, Bd.state]; rfl
  have N0 := Fr.nil n0
  have pre0 : ∀ t, Steps p.tables e below (s₁.setTop (mkF m 0 #[oR r0, oR r1] [])) t → Steps p.tables e below (s₁.setTop (entryFrame m #[(.ref r0), (.ref r1)] 2)) t := fun t k => castTop (efm2 m r0 r1) k
  obtain ⟨T101, X101, e101, st101⟩ := initO X0 hx hZ hown (own_w hw 11 rfl) (own_w hw 12 rfl) (own_w hw 13 rfl) e0 (g := (mkF m 1 #[oR r0, oR r1] [(.ref r0)])) rfl (by rw [hml]; rfl) rfl (hb hby d2_1) (by decide) (W := 0) (by show 2 * 0 + _ ≤ _; exact Nat.le_of_eq rfl) (by decide)
  obtain ⟨T102, h102, k102, X102, e102, E102, A102, Ea102, st102⟩ := newPE X101 hx hZ (own_w hw 4 rfl) e101 (g := (mkF m 7 #[oR r0, oR r1] [(.int 16), (.ref r0)])) rfl (hb hby d2_7) rfl (by decide) (cap := 16) (by decide) (by decide) (by decide) (by decide) (ad := "[D") (by decide)
  obtain ⟨b102, g102⟩ : ∃ z, z = h0.size := ⟨_, rfl⟩
  rw [← g102] at A102 Ea102 st102
  have g_b102 : n0 ≤ b102 := Nat.le_trans Z0 (Nat.le_of_eq g102.symm)
  have sz_b102 : h0.size ≤ b102 := Nat.le_trans (Keep.refl h0 [r0]).1 (Nat.le_of_eq g102.symm)
  have ZZ103 : n0 ≤ h102.size := Nat.le_trans Z0 E102.1
  have KK104 : Keep h0 h102 [r0] := (Keep.refl h0 [r0]).ext E102
  have V_b102 : Arv Z h102 b102 k102 .double (16 : Int32) [(.double 0), (.double 0), (.double 0)] (.double 0) := (Arv.new A102 (by decide)).pad (pad_rep [] (.double 0) 3)
  obtain ⟨T105, h105, X105, e105, W105, st105⟩ := putF X102 hx hZ hown (host := "") (Or.inl (own_w hw 14 rfl)) Via.refl e102 (F_costs_r0.ext E102) (E_r0.ext E102) (Or.inl (own_w hw 15 rfl)) (own_w hw 6 rfl) (ty := (.array .double)) (by decide) rfl rfl (g := (mkF m 9 #[oR r0, oR r1] [(.ref b102), (.ref r0)])) rfl rfl (hb hby d2_9)
  have Fw105 := (F_costs_r0.ext E102).same W105
  have N105 := Fr.snoc X105 N0 g_r0
  have ZZ106 : n0 ≤ h105.size := Nat.le_trans ZZ103 (Nat.le_of_eq W105.size.symm)
  have KK107 : Keep h0 h105 [r0] := KK104.wr W105 (Or.inl (List.mem_of_getElem? (i := 0) rfl))
  obtain ⟨T108, h108, k108, X108, e108, E108, A108, Ea108, st108⟩ := newPE X105 hx hZ (own_w hw 16 rfl) e105 (g := (mkF m 15 #[oR r0, oR r1] [(.int 16), (.ref r0)])) rfl (hb hby d2_15) rfl (by decide) (cap := 16) (by decide) (by decide) (by decide) (by decide) (ad := "[Z") (by decide)
  obtain ⟨b108, g108⟩ : ∃ z, z = h105.size := ⟨_, rfl⟩
  rw [← g108] at A108 Ea108 st108
  have g_b108 : n0 ≤ b108 := Nat.le_trans ZZ106 (Nat.le_of_eq g108.symm)
  have sz_b108 : h0.size ≤ b108 := Nat.le_trans KK107.1 (Nat.le_of_eq g108.symm)
  have ZZ109 : n0 ≤ h108.size := Nat.le_trans ZZ106 E108.1
  have KK110 : Keep h0 h108 [r0] := KK107.ext E108
  have V_b108 : Arv Z h108 b108 k108 .boolean (16 : Int32) [(.int 0), (.int 0), (.int 0)] (.int 0) := (Arv.new A108 (by decide)).pad (pad_rep [] (.int 0) 3)
  have Fc111 := (((F_free_r0.ext E102).other W105 (Or.inr (sn0 hw))).ext E108)
  have Fc112 := (((E_r0.ext E102).wr W105).ext E108)
  obtain ⟨T113, h113, X113, e113, W113, st113⟩ := putF X108 hx hZ hown (host := "") (Or.inl (own_w hw 17 rfl)) Via.refl e108 Fc111 Fc112 (Or.inl (own_w hw 18 rfl)) (own_w hw 6 rfl) (ty := (.array .boolean)) (by decide) rfl rfl (g := (mkF m 17 #[oR r0, oR r1] [(.ref b108), (.ref r0)])) rfl rfl (hb hby d2_17)
  have Fw113 := Fc111.same W113
  have N113 := Fr.snoc X113 N105 g_r0
  have ZZ114 : n0 ≤ h113.size := Nat.le_trans ZZ109 (Nat.le_of_eq W113.size.symm)
  have KK115 : Keep h0 h113 [r0] := KK110.wr W113 (Or.inl (List.mem_of_getElem? (i := 0) rfl))
  obtain ⟨T116, h116, k116, X116, e116, E116, A116, Ea116, O116, st116⟩ := newRA X113 hx hZ hown (by decide) (own_w hw 19 rfl) (own_w hw 20 rfl) e113 (g := (mkF m 23 #[oR r0, oR r1] [(.int 16), (.ref r0)])) rfl (hb hby d2_23) rfl (by decide) (cap := 16) (by decide) (by decide) (by decide) (by decide) (ad := "[[I") (by decide)
  obtain ⟨b116, g116⟩ : ∃ z, z = h113.size := ⟨_, rfl⟩
  rw [← g116] at A116 Ea116 st116
  have g_b116 : n0 ≤ b116 := Nat.le_trans ZZ114 (Nat.le_of_eq g116.symm)
  have sz_b116 : h0.size ≤ b116 := Nat.le_trans KK115.1 (Nat.le_of_eq g116.symm)
  have ZZ117 : n0 ≤ h116.size := Nat.le_trans ZZ114 E116.1
  have KK118 : Keep h0 h116 [r0] := KK115.ext E116
  have V_b116 : Arv Z h116 b116 k116 (.array .int) (16 : Int32) [.null, .null, .null] .null := (Arv.new A116 (by decide)).pad (pad_rep [] .null 3)
  have Fc119 := (((((F_entryRows_r0.ext E102).other W105 (Or.inr (sn1 hw))).ext E108).other W113 (Or.inr (sn2 hw))).ext E116)
  have Fc120 := ((Fc112.wr W113).ext E116)
  obtain ⟨T121, h121, X121, e121, W121, st121⟩ := putF X116 hx hZ hown (host := "") (Or.inl (own_w hw 21 rfl)) Via.refl e116 Fc119 Fc120 (Or.inl (own_w hw 22 rfl)) (own_w hw 6 rfl) (ty := (.array (.array .int))) (by decide) rfl rfl (g := (mkF m 26 #[oR r0, oR r1] [(.ref b116), (.ref r0)])) rfl rfl (hb hby d2_26)
  have Fw121 := Fc119.same W121
  have N121 := Fr.snoc X121 N113 g_r0
  have ZZ122 : n0 ≤ h121.size := Nat.le_trans ZZ117 (Nat.le_of_eq W121.size.symm)
  have KK123 : Keep h0 h121 [r0] := KK118.wr W121 (Or.inl (List.mem_of_getElem? (i := 0) rfl))
  obtain ⟨T124, h124, k124, X124, e124, E124, A124, Ea124, O124, st124⟩ := newRA X121 hx hZ hown (by decide) (own_w hw 23 rfl) (own_w hw 24 rfl) e121 (g := (mkF m 32 #[oR r0, oR r1] [(.int 16), (.ref r0)])) rfl (hb hby d2_32) rfl (by decide) (cap := 16) (by decide) (by decide) (by decide) (by decide) (ad := "[[D") (by decide)
  obtain ⟨b124, g124⟩ : ∃ z, z = h121.size := ⟨_, rfl⟩
  rw [← g124] at A124 Ea124 st124
  have g_b124 : n0 ≤ b124 := Nat.le_trans ZZ122 (Nat.le_of_eq g124.symm)
  have sz_b124 : h0.size ≤ b124 := Nat.le_trans KK123.1 (Nat.le_of_eq g124.symm)
  have ZZ125 : n0 ≤ h124.size := Nat.le_trans ZZ122 E124.1
  have KK126 : Keep h0 h124 [r0] := KK123.ext E124
  have V_b124 : Arv Z h124 b124 k124 (.array .double) (16 : Int32) [.null, .null, .null] .null := (Arv.new A124 (by decide)).pad (pad_rep [] .null 3)
  have Fc127 := (((((((F_entryValues_r0.ext E102).other W105 (Or.inr (sn3 hw))).ext E108).other W113 (Or.inr (sn4 hw))).ext E116).other W121 (Or.inr (sn5 hw))).ext E124)
  have Fc128 := ((Fc120.wr W121).ext E124)
  obtain ⟨T129, h129, X129, e129, W129, st129⟩ := putF X124 hx hZ hown (host := "") (Or.inl (own_w hw 25 rfl)) Via.refl e124 Fc127 Fc128 (Or.inl (own_w hw 26 rfl)) (own_w hw 6 rfl) (ty := (.array (.array .double))) (by decide) rfl rfl (g := (mkF m 35 #[oR r0, oR r1] [(.ref b124), (.ref r0)])) rfl rfl (hb hby d2_35)
  have Fw129 := Fc127.same W129
  have N129 := Fr.snoc X129 N121 g_r0
  have ZZ130 : n0 ≤ h129.size := Nat.le_trans ZZ125 (Nat.le_of_eq W129.size.symm)
  have KK131 : Keep h0 h129 [r0] := KK126.wr W129 (Or.inl (List.mem_of_getElem? (i := 0) rfl))
  obtain ⟨T132, h132, k132, X132, e132, E132, A132, Ea132, st132⟩ := newPE X129 hx hZ (own_w hw 27 rfl) e129 (g := (mkF m 41 #[oR r0, oR r1] [(.int 16), (.ref r0)])) rfl (hb hby d2_41) rfl (by decide) (cap := 16) (by decide) (by decide) (by decide) (by decide) (ad := "[I") (by decide)
  obtain ⟨b132, g132⟩ : ∃ z, z = h129.size := ⟨_, rfl⟩
  rw [← g132] at A132 Ea132 st132
  have g_b132 : n0 ≤ b132 := Nat.le_trans ZZ130 (Nat.le_of_eq g132.symm)
  have sz_b132 : h0.size ≤ b132 := Nat.le_trans KK131.1 (Nat.le_of_eq g132.symm)
  have ZZ133 : n0 ≤ h132.size := Nat.le_trans ZZ130 E132.1
  have KK134 : Keep h0 h132 [r0] := KK131.ext E132
  have V_b132 : Arv Z h132 b132 k132 .int (16 : Int32) [(.int 0), (.int 0), (.int 0)] (.int 0) := (Arv.new A132 (by decide)).pad (pad_rep [] (.int 0) 3)
  have Fc135 := (((((((((F_place_r0.ext E102).other W105 (Or.inr (sn6 hw))).ext E108).other W113 (Or.inr (sn7 hw))).ext E116).other W121 (Or.inr (sn8 hw))).ext E124).other W129 (Or.inr (sn9 hw))).ext E132)
  have Fc136 := ((Fc128.wr W129).ext E132)
  obtain ⟨T137, h137, X137, e137, W137, st137⟩ := putF X132 hx hZ hown (host := "") (Or.inl (own_w hw 28 rfl)) Via.refl e132 Fc135 Fc136 (Or.inl (own_w hw 29 rfl)) (own_w hw 6 rfl) (ty := (.array .int)) (by decide) rfl rfl (g := (mkF m 43 #[oR r0, oR r1] [(.ref b132), (.ref r0)])) rfl rfl (hb hby d2_43)
  have Fw137 := Fc135.same W137
  have N137 := Fr.snoc X137 N129 g_r0
  have ZZ138 : n0 ≤ h137.size := Nat.le_trans ZZ133 (Nat.le_of_eq W137.size.symm)
  have KK139 : Keep h0 h137 [r0] := KK134.wr W137 (Or.inl (List.mem_of_getElem? (i := 0) rfl))
  have Fc140 := (E_r1.keep KK139)
  have nq141 : r1 ≠ r0 := (ne_exa Fc140 (Fc136.wr W137) (by decide))
  have Fc142 := (V_r1.keep KK139 (ninS nq141 nin0))
  obtain ⟨cl143, Ar143, qk143, Sz143, Nz143, Hh143, Gg143⟩ := id Fc142
  have Fc144 := ((((((((((F_rows_r0.ext E102).other W105 (Or.inr (sn10 hw))).ext E108).other W113 (Or.inr (sn11 hw))).ext E116).other W121 (Or.inr (sn12 hw))).ext E124).other W129 (Or.inr (sn13 hw))).ext E132).other W137 (Or.inr (sn14 hw)))
  obtain ⟨T145, h145, X145, e145, W145, st145⟩ := putF X137 hx hZ hown (host := "") (Or.inl (own_w hw 30 rfl)) Via.refl e137 Fc144 (Fc136.wr W137) (Or.inr ⟨(own_w hw 31 rfl), rfl, hnm⟩) (own_w hw 6 rfl) (ty := .int) (by decide) rfl rfl (g := (mkF m 49 #[oR r0, oR r1] [(.int 2), (.ref r0)])) rfl rfl (hb hby d2_49)
  have Fw145 := Fc144.same W145
  have N145 := Fr.snoc X145 N137 g_r0
  have ZZ146 : n0 ≤ h145.size := Nat.le_trans ZZ138 (Nat.le_of_eq W145.size.symm)
  have KK147 : Keep h0 h145 [r0] := KK139.wr W145 (Or.inl (List.mem_of_getElem? (i := 0) rfl))
  have Fc148 := (V_r1.keep KK147 (ninS nq141 nin0))
  have Fc149 := (E_r1.keep KK147)
  obtain ⟨T150, h150, X150, e150, E150, A150, Ea150, st150⟩ := cloneH X145 hx hZ hown (own_w hw 32 rfl) (own_w hw 33 rfl) (own_w hw 37 rfl) (own_w hw 35 rfl) (own_w hw 36 rfl) (own_w hw 38 rfl) e145 (Fc148).arh Fc149 (g := (mkF m 54 #[oR r0, oR r1] [(.ref r1), (.ref r0)])) rfl (by rw [hml]; rfl) rfl (hb hby d2_54) (by decide) (W := 1) (by show 2 * 0 + _ ≤ _; exact Nat.le_of_eq rfl) (by decide) (cap := 2) (by decide) (by decide) (by decide)
  obtain ⟨b150, g150⟩ : ∃ z, z = h145.size := ⟨_, rfl⟩
  rw [← g150] at A150 Ea150 st150
  have g_b150 : n0 ≤ b150 := Nat.le_trans ZZ146 (Nat.le_of_eq g150.symm)
  have sz_b150 : h0.size ≤ b150 := Nat.le_trans KK147.1 (Nat.le_of_eq g150.symm)
  have ZZ151 : n0 ≤ h150.size := Nat.le_trans ZZ146 E150.1
  have KK152 : Keep h0 h150 [r0] := KK147.ext E150
  have V_b150 : Arv Z h150 b150 k1 .double (2 : Int32) [(.double g0), (.double g1)] (.double 0) := A150
  obtain ⟨T153, X153, e153, st153⟩ := castY X150 hx hZ hown (own_w hw 23 rfl) e150 (Ins.self Ea150) (g := (mkF m 57 #[oR r0, oR r1] [(.ref b150), (.ref r0)])) rfl rfl (hb hby d2_57)
  have Fc154 := ((((((((((((F_rhs_r0.ext E102).other W105 (Or.inr (sn15 hw))).ext E108).other W113 (Or.inr (sn16 hw))).ext E116).other W121 (Or.inr (sn17 hw))).ext E124).other W129 (Or.inr (sn18 hw))).ext E132).other W137 (Or.inr (sn19 hw))).other W145 (Or.inr (sn20 hw))).ext E150)
  have Fc155 := (((Fc136.wr W137).wr W145).ext E150)
  obtain ⟨T156, h156, X156, e156, W156, st156⟩ := putF X153 hx hZ hown (host := "") (Or.inl (own_w hw 40 rfl)) Via.refl e153 Fc154 Fc155 (Or.inr ⟨(own_w hw 41 rfl), rfl, hnm⟩) (own_w hw 6 rfl) (ty := (.array .double)) (by decide) rfl rfl (g := (mkF m 60 #[oR r0, oR r1] [(.ref b150), (.ref r0)])) rfl rfl (hb hby d2_60)
  have Fw156 := Fc154.same W156
  have N156 := Fr.snoc X156 N145 g_r0
  have ZZ157 : n0 ≤ h156.size := Nat.le_trans ZZ151 (Nat.le_of_eq W156.size.symm)
  have KK158 : Keep h0 h156 [r0] := KK152.wr W156 (Or.inl (List.mem_of_getElem? (i := 0) rfl))
  have Fc159 := ((Fw145.ext E150).other W156 (Or.inr (Ne.symm (sn20 hw))))
  obtain ⟨T160, X160, e160, st160⟩ := getF X156 hx hZ hown (host := "") (Or.inl (own_w hw 30 rfl)) Via.refl e156 Fc159 (g := (mkF m 65 #[oR r0, oR r1] [(.ref r0), (.ref r0)])) rfl rfl (hb hby d2_65)
  obtain ⟨T161, h161, k161, X161, e161, E161, A161, Ea161, st161⟩ := newPE X160 hx hZ (own_w hw 27 rfl) e160 (g := (mkF m 68 #[oR r0, oR r1] [(.int 2), (.ref r0)])) rfl (hb hby d2_68) rfl (by decide) (cap := 2) (by decide) (by decide) (by decide) (by decide) (ad := "[I") (by decide)
  obtain ⟨b161, g161⟩ : ∃ z, z = h156.size := ⟨_, rfl⟩
  rw [← g161] at A161 Ea161 st161
  have g_b161 : n0 ≤ b161 := Nat.le_trans ZZ157 (Nat.le_of_eq g161.symm)
  have sz_b161 : h0.size ≤ b161 := Nat.le_trans KK158.1 (Nat.le_of_eq g161.symm)
  have ZZ162 : n0 ≤ h161.size := Nat.le_trans ZZ157 E161.1
  have KK163 : Keep h0 h161 [r0] := KK158.ext E161
  have V_b161 : Arv Z h161 b161 k161 .int (2 : Int32) [(.int 0), (.int 0)] (.int 0) := (Arv.new A161 (by decide)).pad (pad_rep [] (.int 0) 2)
  have Fc164 := ((((((((((((((F_basic_r0.ext E102).other W105 (Or.inr (sn21 hw))).ext E108).other W113 (Or.inr (sn22 hw))).ext E116).other W121 (Or.inr (sn23 hw))).ext E124).other W129 (Or.inr (sn24 hw))).ext E132).other W137 (Or.inr (sn25 hw))).other W145 (Or.inr (sn26 hw))).ext E150).other W156 (Or.inr (sn27 hw))).ext E161)
  have Fc165 := ((Fc155.wr W156).ext E161)
  obtain ⟨T166, h166, X166, e166, W166, st166⟩ := putF X161 hx hZ hown (host := "") (Or.inl (own_w hw 42 rfl)) Via.refl e161 Fc164 Fc165 (Or.inr ⟨(own_w hw 43 rfl), rfl, hnm⟩) (own_w hw 6 rfl) (ty := (.array .int)) (by decide) rfl rfl (g := (mkF m 70 #[oR r0, oR r1] [(.ref b161), (.ref r0)])) rfl rfl (hb hby d2_70)
  have Fw166 := Fc164.same W166
  have N166 := Fr.snoc X166 N156 g_r0
  have ZZ167 : n0 ≤ h166.size := Nat.le_trans ZZ162 (Nat.le_of_eq W166.size.symm)
  have KK168 : Keep h0 h166 [r0] := KK163.wr W166 (Or.inl (List.mem_of_getElem? (i := 0) rfl))
  have Fc169 := ((Fc159.ext E161).other W166 (Or.inr (Ne.symm (sn26 hw))))
  obtain ⟨T170, X170, e170, st170⟩ := getF X166 hx hZ hown (host := "") (Or.inl (own_w hw 30 rfl)) Via.refl e166 Fc169 (g := (mkF m 75 #[oR r0, oR r1] [(.ref r0), (.ref r0)])) rfl rfl (hb hby d2_75)
  obtain ⟨T171, X171, e171, st171⟩ := getF X170 hx hZ hown (host := "") (Or.inl (own_w hw 30 rfl)) Via.refl e170 Fc169 (g := (mkF m 79 #[oR r0, oR r1] [(.ref r0), (.int 2), (.ref r0)])) rfl rfl (hb hby d2_79)
  obtain ⟨T172, h172, k172, kc172, X172, e172, E172, A172, O172, Ea172, Ai172, st172⟩ := gridM (xs := (List.range 2).map fun j => h166.size + 1 + j) X171 hx hZ hown (C := "[D") (by decide) (ad := "[[D") (by decide) (own_w hw 44 rfl) (own_w hw 24 rfl) (own_w hw 4 rfl) e171 (g := (mkF m 82 #[oR r0, oR r1] [(.int 2), (.int 2), (.ref r0)])) rfl (hb hby d2_82) rfl (by decide) (by decide) (N := 2) (by decide) rfl (cap := 2) (by decide) (by decide) (by decide) rfl rfl (by decide) (by decide)
  obtain ⟨Aj172_0, Ej172_0⟩ : Arr Z h172 (h166.size + 1 + 0) (newA kc172 .double (2 : Int32)) .double ∧ Exa Z h172 (h166.size + 1 + 0) "[D" := Ai172 0 _ rfl
  obtain ⟨Aj172_1, Ej172_1⟩ : Arr Z h172 (h166.size + 1 + 1) (newA kc172 .double (2 : Int32)) .double ∧ Exa Z h172 (h166.size + 1 + 1) "[D" := Ai172 1 _ rfl
  replace A172 : Arv Z h172 h166.size k172 (.array .double) (2 : Int32) [.ref (h166.size + 1 + 0), .ref (h166.size + 1 + 1)] .null := A172
  obtain ⟨b172_2, gj172_1⟩ : ∃ z, z = h166.size + 1 + 1 := ⟨_, rfl⟩
  rw [← gj172_1] at A172 Aj172_1 Ej172_1
  obtain ⟨b172_1, gj172_0⟩ : ∃ z, z = h166.size + 1 + 0 := ⟨_, rfl⟩
  rw [← gj172_0] at A172 Aj172_0 Ej172_0
  obtain ⟨b172, g172⟩ : ∃ z, z = h166.size := ⟨_, rfl⟩
  rw [← g172] at A172 Ea172 st172
  have gl172_0 : h166.size ≤ b172 := by omega
  have g_b172 : n0 ≤ b172 := Nat.le_trans ZZ167 gl172_0
  have sz_b172 : h0.size ≤ b172 := Nat.le_trans KK168.1 gl172_0
  have gl172_1 : h166.size ≤ b172_1 := by omega
  have g_b172_1 : n0 ≤ b172_1 := Nat.le_trans ZZ167 gl172_1
  have sz_b172_1 : h0.size ≤ b172_1 := Nat.le_trans KK168.1 gl172_1
  have nq172_0_1 : b172 ≠ b172_1 := by omega
  have gl172_2 : h166.size ≤ b172_2 := by omega
  have g_b172_2 : n0 ≤ b172_2 := Nat.le_trans ZZ167 gl172_2
  have sz_b172_2 : h0.size ≤ b172_2 := Nat.le_trans KK168.1 gl172_2
  have nq172_0_2 : b172 ≠ b172_2 := by omega
  have nq172_1_2 : b172_1 ≠ b172_2 := by omega
  have ZZ173 : n0 ≤ h172.size := Nat.le_trans ZZ167 E172.1
  have KK174 : Keep h0 h172 [r0] := KK168.ext E172
  have V_b172_1 : Arv Z h172 b172_1 kc172 .double (2 : Int32) [(.double 0), (.double 0)] (.double 0) := (Arv.new Aj172_0 (by decide)).pad (pad_rep [] (.double 0) 2)
  have V_b172_2 : Arv Z h172 b172_2 kc172 .double (2 : Int32) [(.double 0), (.double 0)] (.double 0) := (Arv.new Aj172_1 (by decide)).pad (pad_rep [] (.double 0) 2)
  have Fc175 := ((((((((((((((((F_inverse_r0.ext E102).other W105 (Or.inr (sn28 hw))).ext E108).other W113 (Or.inr (sn29 hw))).ext E116).other W121 (Or.inr (sn30 hw))).ext E124).other W129 (Or.inr (sn31 hw))).ext E132).other W137 (Or.inr (sn32 hw))).other W145 (Or.inr (sn33 hw))).ext E150).other W156 (Or.inr (sn34 hw))).ext E161).other W166 (Or.inr (sn35 hw))).ext E172)
  have Fc176 := ((Fc165.wr W166).ext E172)
  obtain ⟨T177, h177, X177, e177, W177, st177⟩ := putF X172 hx hZ hown (host := "") (Or.inl (own_w hw 45 rfl)) Via.refl e172 Fc175 Fc176 (Or.inr ⟨(own_w hw 46 rfl), rfl, hnm⟩) (own_w hw 6 rfl) (ty := (.array (.array .double))) (by decide) rfl rfl (g := (mkF m 86 #[oR r0, oR r1] [(.ref b172), (.ref r0)])) rfl rfl (hb hby d2_86)
  have Fw177 := Fc175.same W177
  have N177 := Fr.snoc X177 N166 g_r0
  have ZZ178 : n0 ≤ h177.size := Nat.le_trans ZZ173 (Nat.le_of_eq W177.size.symm)
  have KK179 : Keep h0 h177 [r0] := KK174.wr W177 (Or.inl (List.mem_of_getElem? (i := 0) rfl))
  have Fc180 := ((Fc169.ext E172).other W177 (Or.inr (Ne.symm (sn33 hw))))
  obtain ⟨T181, X181, e181, st181⟩ := getF X177 hx hZ hown (host := "") (Or.inl (own_w hw 30 rfl)) Via.refl e177 Fc180 (g := (mkF m 91 #[oR r0, oR r1] [(.ref r0), (.ref r0)])) rfl rfl (hb hby d2_91)
  obtain ⟨T182, h182, k182, X182, e182, E182, A182, Ea182, st182⟩ := newPE X181 hx hZ (own_w hw 4 rfl) e181 (g := (mkF m 94 #[oR r0, oR r1] [(.int 2), (.ref r0)])) rfl (hb hby d2_94) rfl (by decide) (cap := 2) (by decide) (by decide) (by decide) (by decide) (ad := "[D") (by decide)
  obtain ⟨b182, g182⟩ : ∃ z, z = h177.size := ⟨_, rfl⟩
  rw [← g182] at A182 Ea182 st182
  have g_b182 : n0 ≤ b182 := Nat.le_trans ZZ178 (Nat.le_of_eq g182.symm)
  have sz_b182 : h0.size ≤ b182 := Nat.le_trans KK179.1 (Nat.le_of_eq g182.symm)
  have ZZ183 : n0 ≤ h182.size := Nat.le_trans ZZ178 E182.1
  have KK184 : Keep h0 h182 [r0] := KK179.ext E182
  have V_b182 : Arv Z h182 b182 k182 .double (2 : Int32) [(.double 0), (.double 0)] (.double 0) := (Arv.new A182 (by decide)).pad (pad_rep [] (.double 0) 2)
  have Fc185 := ((((((((((((((((((F_values_r0.ext E102).other W105 (Or.inr (sn36 hw))).ext E108).other W113 (Or.inr (sn37 hw))).ext E116).other W121 (Or.inr (sn38 hw))).ext E124).other W129 (Or.inr (sn39 hw))).ext E132).other W137 (Or.inr (sn40 hw))).other W145 (Or.inr (sn41 hw))).ext E150).other W156 (Or.inr (sn42 hw))).ext E161).other W166 (Or.inr (sn43 hw))).ext E172).other W177 (Or.inr (sn44 hw))).ext E182)
  have Fc186 := ((Fc176.wr W177).ext E182)
  obtain ⟨T187, h187, X187, e187, W187, st187⟩ := putF X182 hx hZ hown (host := "") (Or.inl (own_w hw 47 rfl)) Via.refl e182 Fc185 Fc186 (Or.inr ⟨(own_w hw 48 rfl), rfl, hnm⟩) (own_w hw 6 rfl) (ty := (.array .double)) (by decide) rfl rfl (g := (mkF m 96 #[oR r0, oR r1] [(.ref b182), (.ref r0)])) rfl rfl (hb hby d2_96)
  have Fw187 := Fc185.same W187
  have N187 := Fr.snoc X187 N177 g_r0
  have ZZ188 : n0 ≤ h187.size := Nat.le_trans ZZ183 (Nat.le_of_eq W187.size.symm)
  have KK189 : Keep h0 h187 [r0] := KK184.wr W187 (Or.inl (List.mem_of_getElem? (i := 0) rfl))
  have Fc190 := ((((((((((((((((((Ea102.wr W105).ext E108).wr W113).ext E116).wr W121).ext E124).wr W129).ext E132).wr W137).wr W145).ext E150).wr W156).ext E161).wr W166).ext E172).wr W177).ext E182).wr W187)
  have nq191 : b102 ≠ r0 := (ne_exa Fc190 (Fc186.wr W187) (by decide))
  have Fc192 := ((((((((((((((((Ea108.wr W113).ext E116).wr W121).ext E124).wr W129).ext E132).wr W137).wr W145).ext E150).wr W156).ext E161).wr W166).ext E172).wr W177).ext E182).wr W187)
  have nq193 : b108 ≠ r0 := (ne_exa Fc192 (Fc186.wr W187) (by decide))
  have Fc194 := ((((((((((((((Ea116.wr W121).ext E124).wr W129).ext E132).wr W137).wr W145).ext E150).wr W156).ext E161).wr W166).ext E172).wr W177).ext E182).wr W187)
  have nq195 : b116 ≠ r0 := (ne_exa Fc194 (Fc186.wr W187) (by decide))
  have Fc196 := ((((((((((((Ea124.wr W129).ext E132).wr W137).wr W145).ext E150).wr W156).ext E161).wr W166).ext E172).wr W177).ext E182).wr W187)
  have nq197 : b124 ≠ r0 := (ne_exa Fc196 (Fc186.wr W187) (by decide))
  have Fc198 := ((((((((((Ea132.wr W137).wr W145).ext E150).wr W156).ext E161).wr W166).ext E172).wr W177).ext E182).wr W187)
  have nq199 : b132 ≠ r0 := (ne_exa Fc198 (Fc186.wr W187) (by decide))
  have Fc200 := (((((((Ea150.wr W156).ext E161).wr W166).ext E172).wr W177).ext E182).wr W187)
  have nq201 : b150 ≠ r0 := (ne_exa Fc200 (Fc186.wr W187) (by decide))
  have Fc202 := (((((Ea161.wr W166).ext E172).wr W177).ext E182).wr W187)
  have nq203 : b161 ≠ r0 := (ne_exa Fc202 (Fc186.wr W187) (by decide))
  have Fc204 := (((Ea172.wr W177).ext E182).wr W187)
  have nq205 : b172 ≠ r0 := (ne_exa Fc204 (Fc186.wr W187) (by decide))
  have Fc206 := (((Ej172_0.wr W177).ext E182).wr W187)
  have nq207 : b172_1 ≠ r0 := (ne_exa Fc206 (Fc186.wr W187) (by decide))
  have Fc208 := (((Ej172_1.wr W177).ext E182).wr W187)
  have nq209 : b172_2 ≠ r0 := (ne_exa Fc208 (Fc186.wr W187) (by decide))
  have nq210 : b182 ≠ r0 := (ne_exa (Ea182.wr W187) (Fc186.wr W187) (by decide))
  have nq211 : b172_1 ≠ b182 := (Nat.ne_of_lt (Nat.lt_of_lt_of_le (Ej172_0.wr W177).lt (Nat.le_of_eq g182.symm)))
  have nq212 : b172_2 ≠ b182 := (Nat.ne_of_lt (Nat.lt_of_lt_of_le (Ej172_1.wr W177).lt (Nat.le_of_eq g182.symm)))
  have nq213 : b150 ≠ b172_1 := (Nat.ne_of_lt (Nat.lt_of_lt_of_le (((Ea150.wr W156).ext E161).wr W166).lt gl172_1))
  have nq214 : b150 ≠ b172_2 := (Nat.ne_of_lt (Nat.lt_of_lt_of_le (((Ea150.wr W156).ext E161).wr W166).lt gl172_2))
  have nq215 : b150 ≠ b182 := (Nat.ne_of_lt (Nat.lt_of_lt_of_le (((((Ea150.wr W156).ext E161).wr W166).ext E172).wr W177).lt (Nat.le_of_eq g182.symm)))
  have nq216 : b102 ≠ b172_1 := (Nat.ne_of_lt (Nat.lt_of_lt_of_le ((((((((((((((Ea102.wr W105).ext E108).wr W113).ext E116).wr W121).ext E124).wr W129).ext E132).wr W137).wr W145).ext E150).wr W156).ext E161).wr W166).lt gl172_1))
  have nq217 : b102 ≠ b172_2 := (Nat.ne_of_lt (Nat.lt_of_lt_of_le ((((((((((((((Ea102.wr W105).ext E108).wr W113).ext E116).wr W121).ext E124).wr W129).ext E132).wr W137).wr W145).ext E150).wr W156).ext E161).wr W166).lt gl172_2))
  have nq218 : b102 ≠ b182 := (Nat.ne_of_lt (Nat.lt_of_lt_of_le ((((((((((((((((Ea102.wr W105).ext E108).wr W113).ext E116).wr W121).ext E124).wr W129).ext E132).wr W137).wr W145).ext E150).wr W156).ext E161).wr W166).ext E172).wr W177).lt (Nat.le_of_eq g182.symm)))
  have nq219 : b102 ≠ b150 := (Nat.ne_of_lt (Nat.lt_of_lt_of_le ((((((((((Ea102.wr W105).ext E108).wr W113).ext E116).wr W121).ext E124).wr W129).ext E132).wr W137).wr W145).lt (Nat.le_of_eq g150.symm)))
  have nq220 : b132 ≠ b161 := (Nat.ne_of_lt (Nat.lt_of_lt_of_le ((((Ea132.wr W137).wr W145).ext E150).wr W156).lt (Nat.le_of_eq g161.symm)))
  have nq221 : b124 ≠ b172 := (Nat.ne_of_lt (Nat.lt_of_lt_of_le ((((((((Ea124.wr W129).ext E132).wr W137).wr W145).ext E150).wr W156).ext E161).wr W166).lt gl172_0))
  obtain ⟨fs, hr, hrun, hended, hW, hsame⟩ := X187.leave (v := none) (fun _ => rfl)
  refine ⟨_, _, pre0 _ ?_, hrun, hended, _, _, rfl, ?_, ⟨_, rfl⟩, hW, hsame.mono (by decide) (by decide)⟩
  · show own_S p e below s₁ m 0 #[oR r0, oR r1] [] _
    refine XS.aloadN X0.here hx rfl (hb hby d2_0) rfl rfl ?_
    show own_S p e below s₁ m 1 _ [(.ref r0)] _
    refine st101 _ ?_
    show own_S p e below T101 m 4 _ [] _
    refine XS.aloadN X101.here hx rfl (hb hby d2_4) rfl rfl ?_
    refine XS.bipush X101.here hx rfl (hb hby d2_5) ?_
    show own_S p e below T101 m 7 _ [(.int 16), (.ref r0)] _
    refine st102 _ ?_
    show own_S p e below T102 m 9 _ [(.ref b102), (.ref r0)] _
    refine st105 _ ?_
    show own_S p e below T105 m 12 _ [] _
    refine XS.aloadN X105.here hx rfl (hb hby d2_12) rfl rfl ?_
    refine XS.bipush X105.here hx rfl (hb hby d2_13) ?_
    show own_S p e below T105 m 15 _ [(.int 16), (.ref r0)] _
    refine st108 _ ?_
    show own_S p e below T108 m 17 _ [(.ref b108), (.ref r0)] _
    refine st113 _ ?_
    show own_S p e below T113 m 20 _ [] _
    refine XS.aloadN X113.here hx rfl (hb hby d2_20) rfl rfl ?_
    refine XS.bipush X113.here hx rfl (hb hby d2_21) ?_
    show own_S p e below T113 m 23 _ [(.int 16), (.ref r0)] _
    refine st116 _ ?_
    show own_S p e below T116 m 26 _ [(.ref b116), (.ref r0)] _
    refine st121 _ ?_
    show own_S p e below T121 m 29 #[oR r0, oR r1] [] _
    refine XS.aloadN X121.here hx rfl (hb hby d2_29) rfl rfl ?_
    refine XS.bipush X121.here hx rfl (hb hby d2_30) ?_
    show own_S p e below T121 m 32 _ [(.int 16), (.ref r0)] _
    refine st124 _ ?_
    show own_S p e below T124 m 35 _ [(.ref b124), (.ref r0)] _
    refine st129 _ ?_
    show own_S p e below T129 m 38 _ [] _
    refine XS.aloadN X129.here hx rfl (hb hby d2_38) rfl rfl ?_
    refine XS.bipush X129.here hx rfl (hb hby d2_39) ?_
    show own_S p e below T129 m 41 _ [(.int 16), (.ref r0)] _
    refine st132 _ ?_
    show own_S p e below T132 m 43 #[oR r0, oR r1] [(.ref b132), (.ref r0)] _
    refine st137 _ ?_
    show own_S p e below T137 m 46 _ [] _
    refine XS.aloadN X137.here hx rfl (hb hby d2_46) rfl rfl ?_
    refine XS.aloadN X137.here hx rfl (hb hby d2_47) rfl rfl ?_
    show own_S p e below T137 m 48 _ [(.ref r1), (.ref r0)] _
    refine X137.arraylength hx (by rw [e137]; exact Ar143.1) (State.isArrayOf_alike hZ.alike Ar143.2.1) (g := (mkF m 48 #[oR r0, oR r1] [(.ref r1), (.ref r0)])) rfl rfl (hb hby d2_48) _ ?_
    rw [len_of Sz143 Nz143]
    show own_S p e below T137 m 49 _ [(.int 2), (.ref r0)] _
    refine st145 _ ?_
    show own_S p e below T145 m 52 _ [] _
    refine XS.aloadN X145.here hx rfl (hb hby d2_52) rfl rfl ?_
    refine XS.aloadN X145.here hx rfl (hb hby d2_53) rfl rfl ?_
    show own_S p e below T145 m 54 #[oR r0, oR r1] [(.ref r1), (.ref r0)] _
    refine st150 _ ?_
    show own_S p e below T150 m 57 _ [(.ref b150), (.ref r0)] _
    refine st153 _ ?_
    show own_S p e below T153 m 60 _ [(.ref b150), (.ref r0)] _
    refine st156 _ ?_
    show own_S p e below T156 m 63 _ [] _
    refine XS.aloadN X156.here hx rfl (hb hby d2_63) rfl rfl ?_
    refine XS.aloadN X156.here hx rfl (hb hby d2_64) rfl rfl ?_
    show own_S p e below T156 m 65 _ [(.ref r0), (.ref r0)] _
    refine st160 _ ?_
    show own_S p e below T160 m 68 _ [(.int 2), (.ref r0)] _
    refine st161 _ ?_
    show own_S p e below T161 m 70 #[oR r0, oR r1] [(.ref b161), (.ref r0)] _
    refine st166 _ ?_
    show own_S p e below T166 m 73 _ [] _
    refine XS.aloadN X166.here hx rfl (hb hby d2_73) rfl rfl ?_
    refine XS.aloadN X166.here hx rfl (hb hby d2_74) rfl rfl ?_
    show own_S p e below T166 m 75 _ [(.ref r0), (.ref r0)] _
    refine st170 _ ?_
    show own_S p e below T170 m 78 _ [(.int 2), (.ref r0)] _
    refine XS.aloadN X170.here hx rfl (hb hby d2_78) rfl rfl ?_
    show own_S p e below T170 m 79 _ [(.ref r0), (.int 2), (.ref r0)] _
    refine st171 _ ?_
    show own_S p e below T171 m 82 _ [(.int 2), (.int 2), (.ref r0)] _
    refine st172 _ ?_
    show own_S p e below T172 m 86 #[oR r0, oR r1] [(.ref b172), (.ref r0)] _
    refine st177 _ ?_
    show own_S p e below T177 m 89 _ [] _
    refine XS.aloadN X177.here hx rfl (hb hby d2_89) rfl rfl ?_
    refine XS.aloadN X177.here hx rfl (hb hby d2_90) rfl rfl ?_
    show own_S p e below T177 m 91 _ [(.ref r0), (.ref r0)] _
    refine st181 _ ?_
    show own_S p e below T181 m 94 _ [(.int 2), (.ref r0)] _
    refine st182 _ ?_
    show own_S p e below T182 m 96 _ [(.ref b182), (.ref r0)] _
    refine st187 _ ?_
    show own_S p e below T187 m 99 _ [] _
    exact X187.returnOut hx Bd.returns (hb hby d2_99) hr
  · show Qm2 Z r0 r1 k1 g0 g1 h0 n0 _ T187.heap _
    rw [e187]
    exact ⟨b102, b108, b116, b124, b132, b150, b161, b172, b182, b172_1, b172_2, k102, k108, k116, k124, k132, k1, k161, k172, k182, kc172, rfl, N187, KK189, sz_b102, sz_b108, sz_b116, sz_b124, sz_b132, sz_b150, sz_b161, sz_b172, sz_b182, sz_b172_1, sz_b172_2, ((((((((((((((((((V_b102.other W105 nq191).ext E108).other W113 nq191).ext E116).other W121 nq191).ext E124).other W129 nq191).ext E132).other W137 nq191).other W145 nq191).ext E150).other W156 nq191).ext E161).other W166 nq191).ext E172).other W177 nq191).ext E182).other W187 nq191), ((((((((((((((((V_b108.other W113 nq193).ext E116).other W121 nq193).ext E124).other W129 nq193).ext E132).other W137 nq193).other W145 nq193).ext E150).other W156 nq193).ext E161).other W166 nq193).ext E172).other W177 nq193).ext E182).other W187 nq193), ((((((((((((((V_b116.other W121 nq195).ext E124).other W129 nq195).ext E132).other W137 nq195).other W145 nq195).ext E150).other W156 nq195).ext E161).other W166 nq195).ext E172).other W177 nq195).ext E182).other W187 nq195), ((((((((((((V_b124.other W129 nq197).ext E132).other W137 nq197).other W145 nq197).ext E150).other W156 nq197).ext E161).other W166 nq197).ext E172).other W177 nq197).ext E182).other W187 nq197), ((((((((((V_b132.other W137 nq199).other W145 nq199).ext E150).other W156 nq199).ext E161).other W166 nq199).ext E172).other W177 nq199).ext E182).other W187 nq199), (((((((V_b150.other W156 nq201).ext E161).other W166 nq201).ext E172).other W177 nq201).ext E182).other W187 nq201), (((((V_b161.other W166 nq203).ext E172).other W177 nq203).ext E182).other W187 nq203), (((A172.other W177 nq205).ext E182).other W187 nq205), (((V_b172_1.other W177 nq207).ext E182).other W187 nq207), (((V_b172_2.other W177 nq209).ext E182).other W187 nq209), (V_b182.other W187 nq210), Fc190, Fc192, Fc194, Fc196, Fc198, Fc200, Fc202, Fc204, (Ea182.wr W187), Fc206, Fc208, O116, O124, O172, (((((((((((((((((Fw105.ext E108).other W113 (Or.inr (Ne.symm (sn0 hw)))).ext E116).other W121 (Or.inr (Ne.symm (sn1 hw)))).ext E124).other W129 (Or.inr (Ne.symm (sn3 hw)))).ext E132).other W137 (Or.inr (Ne.symm (sn6 hw)))).other W145 (Or.inr (Ne.symm (sn10 hw)))).ext E150).other W156 (Or.inr (Ne.symm (sn15 hw)))).ext E161).other W166 (Or.inr (Ne.symm (sn21 hw)))).ext E172).other W177 (Or.inr (Ne.symm (sn28 hw)))).ext E182).other W187 (Or.inr (Ne.symm (sn36 hw)))), (((((((((((((((Fw113.ext E116).other W121 (Or.inr (Ne.symm (sn2 hw)))).ext E124).other W129 (Or.inr (Ne.symm (sn4 hw)))).ext E132).other W137 (Or.inr (Ne.symm (sn7 hw)))).other W145 (Or.inr (Ne.symm (sn11 hw)))).ext E150).other W156 (Or.inr (Ne.symm (sn16 hw)))).ext E161).other W166 (Or.inr (Ne.symm (sn22 hw)))).ext E172).other W177 (Or.inr (Ne.symm (sn29 hw)))).ext E182).other W187 (Or.inr (Ne.symm (sn37 hw)))), (((((((((((((Fw121.ext E124).other W129 (Or.inr (Ne.symm (sn5 hw)))).ext E132).other W137 (Or.inr (Ne.symm (sn8 hw)))).other W145 (Or.inr (Ne.symm (sn12 hw)))).ext E150).other W156 (Or.inr (Ne.symm (sn17 hw)))).ext E161).other W166 (Or.inr (Ne.symm (sn23 hw)))).ext E172).other W177 (Or.inr (Ne.symm (sn30 hw)))).ext E182).other W187 (Or.inr (Ne.symm (sn38 hw)))), (((((((((((Fw129.ext E132).other W137 (Or.inr (Ne.symm (sn9 hw)))).other W145 (Or.inr (Ne.symm (sn13 hw)))).ext E150).other W156 (Or.inr (Ne.symm (sn18 hw)))).ext E161).other W166 (Or.inr (Ne.symm (sn24 hw)))).ext E172).other W177 (Or.inr (Ne.symm (sn31 hw)))).ext E182).other W187 (Or.inr (Ne.symm (sn39 hw)))), (((((((((Fw137.other W145 (Or.inr (Ne.symm (sn14 hw)))).ext E150).other W156 (Or.inr (Ne.symm (sn19 hw)))).ext E161).other W166 (Or.inr (Ne.symm (sn25 hw)))).ext E172).other W177 (Or.inr (Ne.symm (sn32 hw)))).ext E182).other W187 (Or.inr (Ne.symm (sn40 hw)))), ((Fc180.ext E182).other W187 (Or.inr (Ne.symm (sn41 hw)))), ((((((Fw156.ext E161).other W166 (Or.inr (Ne.symm (sn27 hw)))).ext E172).other W177 (Or.inr (Ne.symm (sn34 hw)))).ext E182).other W187 (Or.inr (Ne.symm (sn42 hw)))), ((((Fw166.ext E172).other W177 (Or.inr (Ne.symm (sn35 hw)))).ext E182).other W187 (Or.inr (Ne.symm (sn43 hw)))), ((Fw177.ext E182).other W187 (Or.inr (Ne.symm (sn44 hw)))), Fw187, (((((((((((((((((((F_columns_r0.ext E102).other W105 (Or.inr (sn45 hw))).ext E108).other W113 (Or.inr (sn46 hw))).ext E116).other W121 (Or.inr (sn47 hw))).ext E124).other W129 (Or.inr (sn48 hw))).ext E132).other W137 (Or.inr (sn49 hw))).other W145 (Or.inr (sn50 hw))).ext E150).other W156 (Or.inr (sn51 hw))).ext E161).other W166 (Or.inr (sn52 hw))).ext E172).other W177 (Or.inr (sn53 hw))).ext E182).other W187 (Or.inr (sn54 hw))), (((((((((((((((((((F_pivotsSinceRefresh_r0.ext E102).other W105 (Or.inr (sn55 hw))).ext E108).other W113 (Or.inr (sn56 hw))).ext E116).other W121 (Or.inr (sn57 hw))).ext E124).other W129 (Or.inr (sn58 hw))).ext E132).other W137 (Or.inr (sn59 hw))).other W145 (Or.inr (sn60 hw))).ext E150).other W156 (Or.inr (sn61 hw))).ext E161).other W166 (Or.inr (sn62 hw))).ext E172).other W177 (Or.inr (sn63 hw))).ext E182).other W187 (Or.inr (sn64 hw))), (Fc186.wr W187), nq172_1_2, (Ne.symm nq211), (Ne.symm nq212), nq213, nq214, nq215, nq216, nq217, nq218, (Ne.symm nq219), (Ne.symm nq220), (Ne.symm nq221)⟩
theorem sn65 {Z : State} {a0 : Array Value} (hw : own_HW Z a0) : Jvm.RoadKit.slotOf Z own_K1 "pivotsSinceRefresh" "I" ≠ Jvm.RoadKit.slotOf Z own_K1 "columns" "I" := slot_ne (Or.inl (own_w hw 84 rfl)) (Or.inl (own_w hw 56 rfl)) (by decide) (t := .int) (t' := .int) (by decide) (by decide)
theorem d4_0 : decode k4 0 = .ok (.aload_n 0, 1) := by decide +kernel
theorem d4_1 : decode k4 1 = .ok (.getfield 52, 3) := by decide +kernel
theorem d4_4 : decode k4 4 = .ok (.aload_n 0, 1) := by decide +kernel
theorem d4_5 : decode k4 5 = .ok (.getfield 7, 3) := by decide +kernel
theorem d4_8 : decode k4 8 = .ok (.arraylength, 1) := by decide +kernel
theorem d4_9 : decode k4 9 = .ok (.if_icmp .ne 82, 3) := by decide +kernel
theorem d4_91 : decode k4 91 = .ok (.aload_n 0, 1) := by decide +kernel
theorem d4_92 : decode k4 92 = .ok (.getfield 7, 3) := by decide +kernel
theorem d4_95 : decode k4 95 = .ok (.aload_n 0, 1) := by decide +kernel
theorem d4_96 : decode k4 96 = .ok (.getfield 52, 3) := by decide +kernel
theorem d4_99 : decode k4 99 = .ok (.dload_n 1, 1) := by decide +kernel
theorem d4_100 : decode k4 100 = .ok (.dastore, 1) := by decide +kernel
theorem d4_101 : decode k4 101 = .ok (.aload_n 0, 1) := by decide +kernel
theorem d4_102 : decode k4 102 = .ok (.getfield 13, 3) := by decide +kernel
theorem d4_105 : decode k4 105 = .ok (.aload_n 0, 1) := by decide +kernel
theorem d4_106 : decode k4 106 = .ok (.getfield 52, 3) := by decide +kernel
theorem d4_109 : decode k4 109 = .ok (.iload 5, 2) := by decide +kernel
theorem d4_111 : decode k4 111 = .ok (.bastore, 1) := by decide +kernel
theorem d4_112 : decode k4 112 = .ok (.aload_n 0, 1) := by decide +kernel
theorem d4_113 : decode k4 113 = .ok (.getfield 19, 3) := by decide +kernel
theorem d4_116 : decode k4 116 = .ok (.aload_n 0, 1) := by decide +kernel
theorem d4_117 : decode k4 117 = .ok (.getfield 52, 3) := by decide +kernel
theorem d4_120 : decode k4 120 = .ok (.aload_n 3, 1) := by decide +kernel
theorem d4_121 : decode k4 121 = .ok (.invokevirtual 71, 3) := by decide +kernel
theorem d4_124 : decode k4 124 = .ok (.checkcast 17, 3) := by decide +kernel
theorem d4_127 : decode k4 127 = .ok (.aastore, 1) := by decide +kernel
theorem d4_128 : decode k4 128 = .ok (.aload_n 0, 1) := by decide +kernel
theorem d4_129 : decode k4 129 = .ok (.getfield 24, 3) := by decide +kernel
theorem d4_132 : decode k4 132 = .ok (.aload_n 0, 1) := by decide +kernel
theorem d4_133 : decode k4 133 = .ok (.getfield 52, 3) := by decide +kernel
theorem d4_136 : decode k4 136 = .ok (.aload 4, 2) := by decide +kernel
theorem d4_138 : decode k4 138 = .ok (.invokevirtual 35, 3) := by decide +kernel
theorem d4_141 : decode k4 141 = .ok (.checkcast 23, 3) := by decide +kernel
theorem d4_144 : decode k4 144 = .ok (.aastore, 1) := by decide +kernel
theorem d4_145 : decode k4 145 = .ok (.aload_n 0, 1) := by decide +kernel
theorem d4_146 : decode k4 146 = .ok (.getfield 28, 3) := by decide +kernel
theorem d4_149 : decode k4 149 = .ok (.aload_n 0, 1) := by decide +kernel
theorem d4_150 : decode k4 150 = .ok (.getfield 52, 3) := by decide +kernel
theorem d4_153 : decode k4 153 = .ok (.iconst (-1), 1) := by decide +kernel
theorem d4_154 : decode k4 154 = .ok (.iastore, 1) := by decide +kernel
theorem d4_155 : decode k4 155 = .ok (.aload_n 0, 1) := by decide +kernel
theorem d4_156 : decode k4 156 = .ok (.dup, 1) := by decide +kernel
theorem d4_157 : decode k4 157 = .ok (.getfield 52, 3) := by decide +kernel
theorem d4_160 : decode k4 160 = .ok (.dup_x1, 1) := by decide +kernel
theorem d4_161 : decode k4 161 = .ok (.iconst 1, 1) := by decide +kernel
theorem d4_162 : decode k4 162 = .ok (.iadd, 1) := by decide +kernel
theorem d4_163 : decode k4 163 = .ok (.putfield 52, 3) := by decide +kernel
theorem d4_166 : decode k4 166 = .ok (.ireturn, 1) := by decide +kernel
theorem efm4 (m : MethodId) (r0 : Addr) (dc : UInt64) (ra : Addr) (rb : Addr) : entryFrame m #[(.ref r0), (.double dc), (.ref ra), (.ref rb), (.int 0)] 7 = mkF m 0 #[oR r0, oD dc, oV, oR ra, oR rb, oI 0, oU] [] := by first | (simp [entryFrame, mkF, argsToLocals, Value.category]; done) | rfl
def Qm4 (Z : State) (r0 : Addr) (dc : UInt64) (ra : Addr) (rb : Addr) (cc : Int32) (ci : Nat) (vc : List Value) (vf : List Value) (ve : List Value) (vg : List Value) (vp : List Value) (co : Addr) (fr : Addr) (er : Addr) (ev : Addr) (pl : Addr) (kco : ClassId) (kfr : ClassId) (ker : ClassId) (kev : ClassId) (kpl : ClassId) (ka : ClassId) (kb : ClassId) (na : Int32) (nb : Int32) (la : List Value) (lb : List Value) (wR : Value) (wH : Value) (wB : Value) (wI : Value) (wV : Value) (wP : Value) (h0 : Heap) (n0 : Nat) (v : Option Value) (h : Heap) (L : List Loc) : Prop := ∃ xa : Addr, ∃ xb : Addr, v = some (.int cc) ∧ Fr n0 L ∧ (Keep h0 h [r0, co, fr, er, ev, pl]) ∧ (h0.size ≤ xa) ∧ (h0.size ≤ xb) ∧ (Arv Z h co kco .double (16 : Int32) ((vc).set ci (.double dc)) (.double 0)) ∧ (Arv Z h fr kfr .boolean (16 : Int32) ((vf).set ci (.int 0)) (.int 0)) ∧ (Arv Z h er ker (.array .int) (16 : Int32) ((ve).set ci (.ref xa)) .null) ∧ (Arv Z h ev kev (.array .double) (16 : Int32) ((vg).set ci (.ref xb)) .null) ∧ (Arv Z h pl kpl .int (16 : Int32) ((vp).set ci (.int (-1))) (.int 0)) ∧ (Arv Z h xa ka .int na la (.int 0)) ∧ (Arv Z h xb kb .double nb lb (.double 0)) ∧ (Exa Z h xa "[I") ∧ (Exa Z h xb "[D") ∧ (Fld Z h r0 own_K1 "costs" "[D" (.ref co)) ∧ (Fld Z h r0 own_K1 "free" "[Z" (.ref fr)) ∧ (Fld Z h r0 own_K1 "entryRows" "[[I" (.ref er)) ∧ (Fld Z h r0 own_K1 "entryValues" "[[D" (.ref ev)) ∧ (Fld Z h r0 own_K1 "place" "[I" (.ref pl)) ∧ (Fld Z h r0 own_K1 "rows" "I" wR) ∧ (Fld Z h r0 own_K1 "rhs" "[D" wH) ∧ (Fld Z h r0 own_K1 "basic" "[I" wB) ∧ (Fld Z h r0 own_K1 "inverse" "[[D" wI) ∧ (Fld Z h r0 own_K1 "values" "[D" wV) ∧ (Fld Z h r0 own_K1 "columns" "I" (.int (cc + (1 : Int32)))) ∧ (Fld Z h r0 own_K1 "pivotsSinceRefresh" "I" wP) ∧ (Exa Z h r0 own_K1)
set_option maxRecDepth 65536 in
set_option maxHeartbeats 40000000 in
theorem rmm4 (l : Launch) (Z : State) (a0 : Array Value) (hw : own_HW Z a0) (ws : List Jvm.Cond) (r0 : Addr) (dc : UInt64) (ra : Addr) (rb : Addr) (cc : Int32) (ci : Nat) (vc : List Value) (vf : List Value) (ve : List Value) (vg : List Value) (vp : List Value) (co : Addr) (fr : Addr) (er : Addr) (ev : Addr) (pl : Addr) (kco : ClassId) (kfr : ClassId) (ker : ClassId) (kev : ClassId) (kpl : ClassId) (ka : ClassId) (kb : ClassId) (na : Int32) (nb : Int32) (la : List Value) (lb : List Value) (wR : Value) (wH : Value) (wB : Value) (wI : Value) (wV : Value) (wP : Value) (h0 : Heap) (n0 : Nat) (Z0 : n0 ≤ h0.size) (F_costs_r0 : Fld Z h0 r0 own_K1 "costs" "[D" (.ref co)) (F_free_r0 : Fld Z h0 r0 own_K1 "free" "[Z" (.ref fr)) (F_entryRows_r0 : Fld Z h0 r0 own_K1 "entryRows" "[[I" (.ref er)) (F_entryValues_r0 : Fld Z h0 r0 own_K1 "entryValues" "[[D" (.ref ev)) (F_place_r0 : Fld Z h0 r0 own_K1 "place" "[I" (.ref pl)) (F_rows_r0 : Fld Z h0 r0 own_K1 "rows" "I" wR) (F_rhs_r0 : Fld Z h0 r0 own_K1 "rhs" "[D" wH) (F_basic_r0 : Fld Z h0 r0 own_K1 "basic" "[I" wB) (F_inverse_r0 : Fld Z h0 r0 own_K1 "inverse" "[[D" wI) (F_values_r0 : Fld Z h0 r0 own_K1 "values" "[D" wV) (F_columns_r0 : Fld Z h0 r0 own_K1 "columns" "I" (.int cc)) (F_pivotsSinceRefresh_r0 : Fld Z h0 r0 own_K1 "pivotsSinceRefresh" "I" wP) (E_r0 : Exa Z h0 r0 own_K1) (g_r0 : n0 ≤ r0) (g_co : n0 ≤ co) (g_fr : n0 ≤ fr) (g_er : n0 ≤ er) (g_ev : n0 ≤ ev) (g_pl : n0 ≤ pl) (V_co : Arv Z h0 co kco .double (16 : Int32) vc (.double 0)) (V_fr : Arv Z h0 fr kfr .boolean (16 : Int32) vf (.int 0)) (V_er : Arv Z h0 er ker (.array .int) (16 : Int32) ve .null) (V_ev : Arv Z h0 ev kev (.array .double) (16 : Int32) vg .null) (V_pl : Arv Z h0 pl kpl .int (16 : Int32) vp (.int 0)) (V_ra : Arv Z h0 ra ka .int na la (.int 0)) (V_rb : Arv Z h0 rb kb .double nb lb (.double 0)) (E_co : Exa Z h0 co "[D") (E_fr : Exa Z h0 fr "[Z") (E_er : Exa Z h0 er "[[I") (E_ev : Exa Z h0 ev "[[D") (E_pl : Exa Z h0 pl "[I") (E_ra : Exa Z h0 ra "[I") (E_rb : Exa Z h0 rb "[D") (O_er : OvrA Z ker .int "[I") (O_ev : OvrA Z kev .double "[D") (ne_rb_co : rb ≠ co) (hne : ¬ (cc = (16 : Int32))) (hin : ¬ cc < (0 : Int32) ∧ cc < (16 : Int32)) (hci : cc.toNatClampNeg = ci) (hna : na.toNatClampNeg ≤ 2) (hnb : nb.toNatClampNeg ≤ 2) (hl_vc : ci < vc.length) (hl_vf : ci < vf.length) (hl_ve : ci < ve.length) (hl_vg : ci < vg.length) (hl_vp : ci < vp.length) :
    MetFree l (⟨own_K1, "add", "(D[I[DZ)I"⟩ : MethodName) (head1 (Jvm.Cond.code (⟨own_K1, "add", "(D[I[DZ)I"⟩ : MethodName) prog_41_method_2_code 7 (some .int) :: ws) ({ frames := 1, cells := 2, slots := 4, locals := 16 } : Room)) (fun a U => a = #[(.ref r0), (.double dc), (.ref ra), (.ref rb), (.int 0)] ∧ Z.Warmed39 U.vm ∧ U.heap = h0) (fun _ _ _ _ _ => True) (fun _ U o U' => ∃ v L, o = .returned v ∧ Qm4 Z r0 dc ra rb cc ci vc vf ve vg vp co fr er ev pl kco kfr ker kev kpl ka kb na nb la lb wR wH wB wI wV wP h0 n0 v U'.heap L ∧ FrameEnd U o U' L ({ frames := 1, cells := 2, slots := 4, locals := 16 } : Room).cells ({ frames := 1, cells := 2, slots := 4, locals := 16 } : Room).slots) := by
  refine MetFree.of_bodySF (plainFor_of_name pn1) hisR ?_
  intro p e s m args below meth c s₁ Bd hml0 hP hK
  obtain ⟨rfl, hZ, hh⟩ := hP
  have hx := Bd.exec
  have hby := Bd.bytes
  have hml : c.maxLocals = 7 := hml0
  have hown : s.vm.findClass own_K1 = some m.cls := findClass_of_methodNamed Bd.named
  have hnm := (name_of_methodNamed Bd.named Bd.method).1
  have X0 : Stand p l e ({ frames := 1, cells := 2, slots := 4, locals := 16 } : Room) s m #[(.ref r0), (.double dc), (.ref ra), (.ref rb), (.int 0)] below meth c s₁ [] 0 0 := Stand.of_body Bd
  have e0 : s₁.heap = h0 := by rw [← hh, Bd.state]; rfl
  have N0 := Fr.nil n0
  have pre0 : ∀ t, Steps p.tables e below (s₁.setTop (mkF m 0 #[oR r0, oD dc, oV, oR ra, oR rb, oI 0, oU] [])) t → Steps p.tables e below (s₁.setTop (entryFrame m #[(.ref r0), (.double dc), (.ref ra), (.ref rb), (.int 0)] 7)) t := fun t k => castTop (efm4 m r0 dc ra rb) k
  obtain ⟨T101, X101, e101, st101⟩ := getF X0 hx hZ hown (host := "") (Or.inl (own_w hw 55 rfl)) Via.refl e0 F_columns_r0 (g := (mkF m 1 #[oR r0, oD dc, oV, oR ra, oR rb, oI 0, oU] [(.ref r0)])) rfl rfl (hb hby d4_1)
  obtain ⟨T102, X102, e102, st102⟩ := getF X101 hx hZ hown (host := "") (Or.inl (own_w hw 14 rfl)) Via.refl e101 F_costs_r0 (g := (mkF m 5 #[oR r0, oD dc, oV, oR ra, oR rb, oI 0, oU] [(.ref r0), (.int cc)])) rfl rfl (hb hby d4_5)
  obtain ⟨cl103, Ar103, qk103, Sz103, Nz103, Hh103, Gg103⟩ := id V_co
  obtain ⟨T104, X104, e104, st104⟩ := getF X102 hx hZ hown (host := "") (Or.inl (own_w hw 14 rfl)) Via.refl e102 F_costs_r0 (g := (mkF m 92 #[oR r0, oD dc, oV, oR ra, oR rb, oI 0, oU] [(.ref r0)])) rfl rfl (hb hby d4_92)
  obtain ⟨T105, X105, e105, st105⟩ := getF X104 hx hZ hown (host := "") (Or.inl (own_w hw 55 rfl)) Via.refl e104 F_columns_r0 (g := (mkF m 96 #[oR r0, oD dc, oV, oR ra, oR rb, oI 0, oU] [(.ref r0), (.ref co)])) rfl rfl (hb hby d4_96)
  have hin106 : ¬ (cc < 0 ∨ cl103.slots.size ≤ (cc).toNatClampNeg) := inb_of Sz103 hin
  obtain ⟨T107, h107, X107, e107, W107, st107⟩ := stD X105 hx hZ e105 Ar103 (j := cc) hin106 (g := (mkF m 100 #[oR r0, oD dc, oV, oR ra, oR rb, oI 0, oU] [(.double dc), (.int cc), (.ref co)])) rfl rfl (hb hby d4_100)
  have Va107 := Arv.set Ar103 qk103 Sz103 Nz103 Hh103 Gg103 rfl W107 ci hci hl_vc
  have N107 := Fr.snoc X107 N0 g_co
  have ZZ108 : n0 ≤ h107.size := Nat.le_trans Z0 (Nat.le_of_eq W107.size.symm)
  have KK109 : Keep h0 h107 [r0, co, fr, er, ev, pl] := (Keep.refl h0 [r0, co, fr, er, ev, pl]).wr W107 (Or.inl (List.mem_of_getElem? (i := 1) rfl))
  have nq110 : r0 ≠ co := (ne_exa (E_r0.wr W107) (E_co.wr W107) (by decide))
  have Fc111 := (F_free_r0.other W107 (Or.inl nq110))
  obtain ⟨T112, X112, e112, st112⟩ := getF X107 hx hZ hown (host := "") (Or.inl (own_w hw 17 rfl)) Via.refl e107 Fc111 (g := (mkF m 102 #[oR r0, oD dc, oV, oR ra, oR rb, oI 0, oU] [(.ref r0)])) rfl rfl (hb hby d4_102)
  have Fc113 := (F_columns_r0.other W107 (Or.inl nq110))
  obtain ⟨T114, X114, e114, st114⟩ := getF X112 hx hZ hown (host := "") (Or.inl (own_w hw 55 rfl)) Via.refl e112 Fc113 (g := (mkF m 106 #[oR r0, oD dc, oV, oR ra, oR rb, oI 0, oU] [(.ref r0), (.ref fr)])) rfl rfl (hb hby d4_106)
  have nq115 : fr ≠ co := (ne_exa (E_fr.wr W107) (E_co.wr W107) (by decide))
  obtain ⟨cl116, Ar116, qk116, Sz116, Nz116, Hh116, Gg116⟩ := id (V_fr.other W107 nq115)
  have hin117 : ¬ (cc < 0 ∨ cl116.slots.size ≤ (cc).toNatClampNeg) := inb_of Sz116 hin
  obtain ⟨T118, h118, X118, e118, W118, st118⟩ := stZ X114 hx hZ e114 Ar116 (j := cc) hin117 (g := (mkF m 111 #[oR r0, oD dc, oV, oR ra, oR rb, oI 0, oU] [(.int 0), (.int cc), (.ref fr)])) rfl rfl (hb hby d4_111)
  rw [show nar .boolean (0 : Int32) = (0 : Int32) by decide] at W118
  have Va118 := Arv.set Ar116 qk116 Sz116 Nz116 Hh116 Gg116 rfl W118 ci hci hl_vf
  have N118 := Fr.snoc X118 N107 g_fr
  have ZZ119 : n0 ≤ h118.size := Nat.le_trans ZZ108 (Nat.le_of_eq W118.size.symm)
  have KK120 : Keep h0 h118 [r0, co, fr, er, ev, pl] := KK109.wr W118 (Or.inl (List.mem_of_getElem? (i := 2) rfl))
  have nq121 : r0 ≠ fr := (ne_exa ((E_r0.wr W107).wr W118) ((E_fr.wr W107).wr W118) (by decide))
  have Fc122 := ((F_entryRows_r0.other W107 (Or.inl nq110)).other W118 (Or.inl nq121))
  obtain ⟨T123, X123, e123, st123⟩ := getF X118 hx hZ hown (host := "") (Or.inl (own_w hw 21 rfl)) Via.refl e118 Fc122 (g := (mkF m 113 #[oR r0, oD dc, oV, oR ra, oR rb, oI 0, oU] [(.ref r0)])) rfl rfl (hb hby d4_113)
  have Fc124 := (Fc113.other W118 (Or.inl nq121))
  obtain ⟨T125, X125, e125, st125⟩ := getF X123 hx hZ hown (host := "") (Or.inl (own_w hw 55 rfl)) Via.refl e123 Fc124 (g := (mkF m 117 #[oR r0, oD dc, oV, oR ra, oR rb, oI 0, oU] [(.ref r0), (.ref er)])) rfl rfl (hb hby d4_117)
  have Fc126 := (E_ra.keep KK120)
  have nq127 : ra ≠ r0 := (ne_exa Fc126 ((E_r0.wr W107).wr W118) (by decide))
  have nq128 : ra ≠ co := (ne_exa Fc126 ((E_co.wr W107).wr W118) (by decide))
  have nq129 : ra ≠ fr := (ne_exa Fc126 ((E_fr.wr W107).wr W118) (by decide))
  have nq130 : ra ≠ er := (ne_exa Fc126 ((E_er.wr W107).wr W118) (by decide))
  have nq131 : ra ≠ ev := (ne_exa Fc126 ((E_ev.wr W107).wr W118) (by decide))
  have Fc132 := ((V_ra.other W107 nq128).other W118 nq129)
  obtain ⟨T133, h133, X133, e133, E133, A133, Ea133, st133⟩ := cloneH X125 hx hZ hown (own_w hw 57 rfl) (own_w hw 58 rfl) (own_w hw 37 rfl) (own_w hw 35 rfl) (own_w hw 59 rfl) (own_w hw 60 rfl) e125 (Fc132).arh Fc126 (g := (mkF m 121 #[oR r0, oD dc, oV, oR ra, oR rb, oI 0, oU] [(.ref ra), (.int cc), (.ref er)])) rfl (by rw [hml]; rfl) rfl (hb hby d4_121) (by decide) (W := 2) (by show 2 * 0 + _ ≤ _; exact Nat.le_of_eq rfl) (by decide) (cap := 2) hna (by decide) (by decide)
  obtain ⟨b133, g133⟩ : ∃ z, z = h118.size := ⟨_, rfl⟩
  rw [← g133] at A133 Ea133 st133
  have g_b133 : n0 ≤ b133 := Nat.le_trans ZZ119 (Nat.le_of_eq g133.symm)
  have sz_b133 : h0.size ≤ b133 := Nat.le_trans KK120.1 (Nat.le_of_eq g133.symm)
  have ZZ134 : n0 ≤ h133.size := Nat.le_trans ZZ119 E133.1
  have KK135 : Keep h0 h133 [r0, co, fr, er, ev, pl] := KK120.ext E133
  have V_b133 : Arv Z h133 b133 ka .int na la (.int 0) := A133
  obtain ⟨T136, X136, e136, st136⟩ := castY X133 hx hZ hown (own_w hw 19 rfl) e133 (Ins.self Ea133) (g := (mkF m 124 #[oR r0, oD dc, oV, oR ra, oR rb, oI 0, oU] [(.ref b133), (.int cc), (.ref er)])) rfl rfl (hb hby d4_124)
  have Fc137 := (((E_er.wr W107).wr W118).ext E133)
  have Fc138 := (((E_co.wr W107).wr W118).ext E133)
  have nq139 : er ≠ co := (ne_exa Fc137 Fc138 (by decide))
  have Fc140 := (((E_fr.wr W107).wr W118).ext E133)
  have nq141 : er ≠ fr := (ne_exa Fc137 Fc140 (by decide))
  have Fc142 := (((V_er.other W107 nq139).other W118 nq141).ext E133)
  obtain ⟨cl143, Ar143, qk143, Sz143, Nz143, Hh143, Gg143⟩ := id Fc142
  have hin144 : ¬ (cc < 0 ∨ cl143.slots.size ≤ (cc).toNatClampNeg) := inb_of Sz143 hin
  obtain ⟨T145, h145, X145, e145, W145, st145⟩ := stR X136 hx hZ e136 Ar143 (j := cc) hin144 rfl (Sto.ofVA Ar143 qk143 O_er (Ins.self Ea133)) (g := (mkF m 127 #[oR r0, oD dc, oV, oR ra, oR rb, oI 0, oU] [(.ref b133), (.int cc), (.ref er)])) rfl rfl (hb hby d4_127)
  have Va145 := Arv.set Ar143 qk143 Sz143 Nz143 Hh143 Gg143 rfl W145 ci hci hl_ve
  have N145 := Fr.snoc X145 N118 g_er
  have ZZ146 : n0 ≤ h145.size := Nat.le_trans ZZ134 (Nat.le_of_eq W145.size.symm)
  have KK147 : Keep h0 h145 [r0, co, fr, er, ev, pl] := KK135.wr W145 (Or.inl (List.mem_of_getElem? (i := 3) rfl))
  have Fc148 := ((((E_r0.wr W107).wr W118).ext E133).wr W145)
  have nq149 : r0 ≠ er := (ne_exa Fc148 (Fc137.wr W145) (by decide))
  have Fc150 := ((((F_entryValues_r0.other W107 (Or.inl nq110)).other W118 (Or.inl nq121)).ext E133).other W145 (Or.inl nq149))
  obtain ⟨T151, X151, e151, st151⟩ := getF X145 hx hZ hown (host := "") (Or.inl (own_w hw 25 rfl)) Via.refl e145 Fc150 (g := (mkF m 129 #[oR r0, oD dc, oV, oR ra, oR rb, oI 0, oU] [(.ref r0)])) rfl rfl (hb hby d4_129)
  have Fc152 := ((Fc124.ext E133).other W145 (Or.inl nq149))
  obtain ⟨T153, X153, e153, st153⟩ := getF X151 hx hZ hown (host := "") (Or.inl (own_w hw 55 rfl)) Via.refl e151 Fc152 (g := (mkF m 133 #[oR r0, oD dc, oV, oR ra, oR rb, oI 0, oU] [(.ref r0), (.ref ev)])) rfl rfl (hb hby d4_133)
  have Fc154 := (E_rb.keep KK147)
  have nq155 : rb ≠ r0 := (ne_exa Fc154 Fc148 (by decide))
  have nq156 : rb ≠ fr := (ne_exa Fc154 (Fc140.wr W145) (by decide))
  have nq157 : rb ≠ er := (ne_exa Fc154 (Fc137.wr W145) (by decide))
  have Fc158 := ((((E_ev.wr W107).wr W118).ext E133).wr W145)
  have nq159 : rb ≠ ev := (ne_exa Fc154 Fc158 (by decide))
  have Fc160 := ((((E_pl.wr W107).wr W118).ext E133).wr W145)
  have nq161 : rb ≠ pl := (ne_exa Fc154 Fc160 (by decide))
  have Fc162 := (V_rb.keep KK147 (ninS nq155 (ninS ne_rb_co (ninS nq156 (ninS nq157 (ninS nq159 (ninS nq161 nin0)))))))
  obtain ⟨T163, h163, X163, e163, E163, A163, Ea163, st163⟩ := cloneH X153 hx hZ hown (own_w hw 32 rfl) (own_w hw 33 rfl) (own_w hw 37 rfl) (own_w hw 35 rfl) (own_w hw 36 rfl) (own_w hw 38 rfl) e153 (Fc162).arh Fc154 (g := (mkF m 138 #[oR r0, oD dc, oV, oR ra, oR rb, oI 0, oU] [(.ref rb), (.int cc), (.ref ev)])) rfl (by rw [hml]; rfl) rfl (hb hby d4_138) (by decide) (W := 2) (by show 2 * 0 + _ ≤ _; exact Nat.le_of_eq rfl) (by decide) (cap := 2) hnb (by decide) (by decide)
  obtain ⟨b163, g163⟩ : ∃ z, z = h145.size := ⟨_, rfl⟩
  rw [← g163] at A163 Ea163 st163
  have g_b163 : n0 ≤ b163 := Nat.le_trans ZZ146 (Nat.le_of_eq g163.symm)
  have sz_b163 : h0.size ≤ b163 := Nat.le_trans KK147.1 (Nat.le_of_eq g163.symm)
  have ZZ164 : n0 ≤ h163.size := Nat.le_trans ZZ146 E163.1
  have KK165 : Keep h0 h163 [r0, co, fr, er, ev, pl] := KK147.ext E163
  have V_b163 : Arv Z h163 b163 kb .double nb lb (.double 0) := A163
  obtain ⟨T166, X166, e166, st166⟩ := castY X163 hx hZ hown (own_w hw 23 rfl) e163 (Ins.self Ea163) (g := (mkF m 141 #[oR r0, oD dc, oV, oR ra, oR rb, oI 0, oU] [(.ref b163), (.int cc), (.ref ev)])) rfl rfl (hb hby d4_141)
  have Fc167 := ((Fc138.wr W145).ext E163)
  have nq168 : ev ≠ co := (ne_exa (Fc158.ext E163) Fc167 (by decide))
  have Fc169 := ((Fc140.wr W145).ext E163)
  have nq170 : ev ≠ fr := (ne_exa (Fc158.ext E163) Fc169 (by decide))
  have Fc171 := ((Fc137.wr W145).ext E163)
  have nq172 : ev ≠ er := (ne_exa (Fc158.ext E163) Fc171 (by decide))
  have Fc173 := (((((V_ev.other W107 nq168).other W118 nq170).ext E133).other W145 nq172).ext E163)
  obtain ⟨cl174, Ar174, qk174, Sz174, Nz174, Hh174, Gg174⟩ := id Fc173
  have hin175 : ¬ (cc < 0 ∨ cl174.slots.size ≤ (cc).toNatClampNeg) := inb_of Sz174 hin
  obtain ⟨T176, h176, X176, e176, W176, st176⟩ := stR X166 hx hZ e166 Ar174 (j := cc) hin175 rfl (Sto.ofVA Ar174 qk174 O_ev (Ins.self Ea163)) (g := (mkF m 144 #[oR r0, oD dc, oV, oR ra, oR rb, oI 0, oU] [(.ref b163), (.int cc), (.ref ev)])) rfl rfl (hb hby d4_144)
  have Va176 := Arv.set Ar174 qk174 Sz174 Nz174 Hh174 Gg174 rfl W176 ci hci hl_vg
  have N176 := Fr.snoc X176 N145 g_ev
  have ZZ177 : n0 ≤ h176.size := Nat.le_trans ZZ164 (Nat.le_of_eq W176.size.symm)
  have KK178 : Keep h0 h176 [r0, co, fr, er, ev, pl] := KK165.wr W176 (Or.inl (List.mem_of_getElem? (i := 4) rfl))
  have Fc179 := ((Fc148.ext E163).wr W176)
  have Fc180 := ((Fc158.ext E163).wr W176)
  have nq181 : r0 ≠ ev := (ne_exa Fc179 Fc180 (by decide))
  have Fc182 := ((((((F_place_r0.other W107 (Or.inl nq110)).other W118 (Or.inl nq121)).ext E133).other W145 (Or.inl nq149)).ext E163).other W176 (Or.inl nq181))
  obtain ⟨T183, X183, e183, st183⟩ := getF X176 hx hZ hown (host := "") (Or.inl (own_w hw 28 rfl)) Via.refl e176 Fc182 (g := (mkF m 146 #[oR r0, oD dc, oV, oR ra, oR rb, oI 0, oU] [(.ref r0)])) rfl rfl (hb hby d4_146)
  have Fc184 := ((Fc152.ext E163).other W176 (Or.inl nq181))
  obtain ⟨T185, X185, e185, st185⟩ := getF X183 hx hZ hown (host := "") (Or.inl (own_w hw 55 rfl)) Via.refl e183 Fc184 (g := (mkF m 150 #[oR r0, oD dc, oV, oR ra, oR rb, oI 0, oU] [(.ref r0), (.ref pl)])) rfl rfl (hb hby d4_150)
  have Fc186 := ((Fc160.ext E163).wr W176)
  have nq187 : pl ≠ co := (ne_exa Fc186 (Fc167.wr W176) (by decide))
  have nq188 : pl ≠ fr := (ne_exa Fc186 (Fc169.wr W176) (by decide))
  have nq189 : pl ≠ er := (ne_exa Fc186 (Fc171.wr W176) (by decide))
  have nq190 : pl ≠ ev := (ne_exa Fc186 Fc180 (by decide))
  have Fc191 := ((((((V_pl.other W107 nq187).other W118 nq188).ext E133).other W145 nq189).ext E163).other W176 nq190)
  obtain ⟨cl192, Ar192, qk192, Sz192, Nz192, Hh192, Gg192⟩ := id Fc191
  have hin193 : ¬ (cc < 0 ∨ cl192.slots.size ≤ (cc).toNatClampNeg) := inb_of Sz192 hin
  obtain ⟨T194, h194, X194, e194, W194, st194⟩ := stI X185 hx hZ e185 Ar192 (j := cc) hin193 (g := (mkF m 154 #[oR r0, oD dc, oV, oR ra, oR rb, oI 0, oU] [(.int (-1)), (.int cc), (.ref pl)])) rfl rfl (hb hby d4_154)
  have Va194 := Arv.set Ar192 qk192 Sz192 Nz192 Hh192 Gg192 rfl W194 ci hci hl_vp
  have N194 := Fr.snoc X194 N176 g_pl
  have ZZ195 : n0 ≤ h194.size := Nat.le_trans ZZ177 (Nat.le_of_eq W194.size.symm)
  have KK196 : Keep h0 h194 [r0, co, fr, er, ev, pl] := KK178.wr W194 (Or.inl (List.mem_of_getElem? (i := 5) rfl))
  have nq197 : r0 ≠ pl := (ne_exa (Fc179.wr W194) (Fc186.wr W194) (by decide))
  have Fc198 := (Fc184.other W194 (Or.inl nq197))
  obtain ⟨T199, X199, e199, st199⟩ := getF X194 hx hZ hown (host := "") (Or.inl (own_w hw 55 rfl)) Via.refl e194 Fc198 (g := (mkF m 157 #[oR r0, oD dc, oV, oR ra, oR rb, oI 0, oU] [(.ref r0), (.ref r0)])) rfl rfl (hb hby d4_157)
  obtain ⟨T200, h200, X200, e200, W200, st200⟩ := putF X199 hx hZ hown (host := "") (Or.inl (own_w hw 55 rfl)) Via.refl e199 Fc198 (Fc179.wr W194) (Or.inl (own_w hw 56 rfl)) (own_w hw 6 rfl) (ty := .int) (by decide) rfl rfl (g := (mkF m 163 #[oR r0, oD dc, oV, oR ra, oR rb, oI 0, oU] [(.int (cc + (1 : Int32))), (.ref r0), (.int cc)])) rfl rfl (hb hby d4_163)
  have Fw200 := Fc198.same W200
  have N200 := Fr.snoc X200 N194 g_r0
  have ZZ201 : n0 ≤ h200.size := Nat.le_trans ZZ195 (Nat.le_of_eq W200.size.symm)
  have KK202 : Keep h0 h200 [r0, co, fr, er, ev, pl] := KK196.wr W200 (Or.inl (List.mem_of_getElem? (i := 0) rfl))
  have Fc203 := (((((Ea133.wr W145).ext E163).wr W176).wr W194).wr W200)
  have Fc204 := (((Fc171.wr W176).wr W194).wr W200)
  have nq205 : b133 ≠ er := (ne_exa Fc203 Fc204 (by decide))
  have Fc206 := ((Fc180.wr W194).wr W200)
  have nq207 : b133 ≠ ev := (ne_exa Fc203 Fc206 (by decide))
  have nq208 : pl ≠ b133 := (Nat.ne_of_lt (Nat.lt_of_lt_of_le ((E_pl.wr W107).wr W118).lt (Nat.le_of_eq g133.symm)))
  have Fc209 := ((Fc179.wr W194).wr W200)
  have nq210 : b133 ≠ r0 := (ne_exa Fc203 Fc209 (by decide))
  have Fc211 := (((Ea163.wr W176).wr W194).wr W200)
  have nq212 : b163 ≠ ev := (ne_exa Fc211 Fc206 (by decide))
  have Fc213 := ((Fc186.wr W194).wr W200)
  have nq214 : b163 ≠ pl := (ne_exa Fc211 Fc213 (by decide))
  have nq215 : b163 ≠ r0 := (ne_exa Fc211 Fc209 (by decide))
  obtain ⟨fs, hr, hrun, hended, hW, hsame⟩ := X200.leave (v := some (.int cc)) (fun h => by rw [Bd.returns] at h; cases h)
  refine ⟨_, _, pre0 _ ?_, hrun, hended, _, _, rfl, ?_, ⟨_, rfl⟩, hW, hsame.mono (by decide) (by decide)⟩
  · show own_S p e below s₁ m 0 #[oR r0, oD dc, oV, oR ra, oR rb, oI 0, oU] [] _
    refine XS.aloadN X0.here hx rfl (hb hby d4_0) rfl rfl ?_
    show own_S p e below s₁ m 1 _ [(.ref r0)] _
    refine st101 _ ?_
    show own_S p e below T101 m 4 _ [(.int cc)] _
    refine XS.aloadN X101.here hx rfl (hb hby d4_4) rfl rfl ?_
    show own_S p e below T101 m 5 _ [(.ref r0), (.int cc)] _
    refine st102 _ ?_
    show own_S p e below T102 m 8 _ [(.ref co), (.int cc)] _
    refine X102.arraylength hx (by rw [e102]; exact Ar103.1) (State.isArrayOf_alike hZ.alike Ar103.2.1) (g := (mkF m 8 #[oR r0, oD dc, oV, oR ra, oR rb, oI 0, oU] [(.ref co), (.int cc)])) rfl rfl (hb hby d4_8) _ ?_
    rw [len_of Sz103 Nz103]
    show own_S p e below T102 m 9 _ [(.int 16), (.int cc)] _
    refine XS.icmpYes X102.here hx rfl (pc0 := 9) (pc' := 91) rfl (hb hby d4_9) rfl (feq (hne : ¬ (cc = (16 : Int32)))).2 (by decide) (by decide) ?_
    refine XS.aloadN X102.here hx rfl (hb hby d4_91) rfl rfl ?_
    show own_S p e below T102 m 92 #[oR r0, oD dc, oV, oR ra, oR rb, oI 0, oU] [(.ref r0)] _
    refine st104 _ ?_
    show own_S p e below T104 m 95 _ [(.ref co)] _
    refine XS.aloadN X104.here hx rfl (hb hby d4_95) rfl rfl ?_
    show own_S p e below T104 m 96 _ [(.ref r0), (.ref co)] _
    refine st105 _ ?_
    show own_S p e below T105 m 99 _ [(.int cc), (.ref co)] _
    refine XS.dloadN X105.here hx rfl (hb hby d4_99) rfl ?_
    show own_S p e below T105 m 100 _ [(.double dc), (.int cc), (.ref co)] _
    refine st107 _ ?_
    show own_S p e below T107 m 101 _ [] _
    refine XS.aloadN X107.here hx rfl (hb hby d4_101) rfl rfl ?_
    show own_S p e below T107 m 102 _ [(.ref r0)] _
    refine st112 _ ?_
    show own_S p e below T112 m 105 #[oR r0, oD dc, oV, oR ra, oR rb, oI 0, oU] [(.ref fr)] _
    refine XS.aloadN X112.here hx rfl (hb hby d4_105) rfl rfl ?_
    show own_S p e below T112 m 106 _ [(.ref r0), (.ref fr)] _
    refine st114 _ ?_
    show own_S p e below T114 m 109 _ [(.int cc), (.ref fr)] _
    refine XS.iload X114.here hx rfl (hb hby d4_109) rfl ?_
    show own_S p e below T114 m 111 _ [(.int 0), (.int cc), (.ref fr)] _
    refine st118 _ ?_
    show own_S p e below T118 m 112 _ [] _
    refine XS.aloadN X118.here hx rfl (hb hby d4_112) rfl rfl ?_
    show own_S p e below T118 m 113 _ [(.ref r0)] _
    refine st123 _ ?_
    show own_S p e below T123 m 116 _ [(.ref er)] _
    refine XS.aloadN X123.here hx rfl (hb hby d4_116) rfl rfl ?_
    show own_S p e below T123 m 117 #[oR r0, oD dc, oV, oR ra, oR rb, oI 0, oU] [(.ref r0), (.ref er)] _
    refine st125 _ ?_
    show own_S p e below T125 m 120 _ [(.int cc), (.ref er)] _
    refine XS.aloadN X125.here hx rfl (hb hby d4_120) rfl rfl ?_
    show own_S p e below T125 m 121 _ [(.ref ra), (.int cc), (.ref er)] _
    refine st133 _ ?_
    show own_S p e below T133 m 124 _ [(.ref b133), (.int cc), (.ref er)] _
    refine st136 _ ?_
    show own_S p e below T136 m 127 _ [(.ref b133), (.int cc), (.ref er)] _
    refine st145 _ ?_
    show own_S p e below T145 m 128 _ [] _
    refine XS.aloadN X145.here hx rfl (hb hby d4_128) rfl rfl ?_
    show own_S p e below T145 m 129 _ [(.ref r0)] _
    refine st151 _ ?_
    show own_S p e below T151 m 132 #[oR r0, oD dc, oV, oR ra, oR rb, oI 0, oU] [(.ref ev)] _
    refine XS.aloadN X151.here hx rfl (hb hby d4_132) rfl rfl ?_
    show own_S p e below T151 m 133 _ [(.ref r0), (.ref ev)] _
    refine st153 _ ?_
    show own_S p e below T153 m 136 _ [(.int cc), (.ref ev)] _
    refine XS.aload X153.here hx rfl (hb hby d4_136) rfl rfl ?_
    show own_S p e below T153 m 138 _ [(.ref rb), (.int cc), (.ref ev)] _
    refine st163 _ ?_
    show own_S p e below T163 m 141 _ [(.ref b163), (.int cc), (.ref ev)] _
    refine st166 _ ?_
    show own_S p e below T166 m 144 _ [(.ref b163), (.int cc), (.ref ev)] _
    refine st176 _ ?_
    show own_S p e below T176 m 145 _ [] _
    refine XS.aloadN X176.here hx rfl (hb hby d4_145) rfl rfl ?_
    show own_S p e below T176 m 146 #[oR r0, oD dc, oV, oR ra, oR rb, oI 0, oU] [(.ref r0)] _
    refine st183 _ ?_
    show own_S p e below T183 m 149 _ [(.ref pl)] _
    refine XS.aloadN X183.here hx rfl (hb hby d4_149) rfl rfl ?_
    show own_S p e below T183 m 150 _ [(.ref r0), (.ref pl)] _
    refine st185 _ ?_
    show own_S p e below T185 m 153 _ [(.int cc), (.ref pl)] _
    refine XS.iconst X185.here hx rfl (hb hby d4_153) ?_
    show own_S p e below T185 m 154 _ [(.int (-1)), (.int cc), (.ref pl)] _
    refine st194 _ ?_
    show own_S p e below T194 m 155 _ [] _
    refine XS.aloadN X194.here hx rfl (hb hby d4_155) rfl rfl ?_
    refine XS.dup X194.here hx rfl (hb hby d4_156) rfl rfl ?_
    show own_S p e below T194 m 157 #[oR r0, oD dc, oV, oR ra, oR rb, oI 0, oU] [(.ref r0), (.ref r0)] _
    refine st199 _ ?_
    show own_S p e below T199 m 160 _ [(.int cc), (.ref r0)] _
    refine XS.dupX1 X199.here hx rfl (hb hby d4_160) rfl rfl rfl ?_
    show own_S p e below T199 m 161 _ [(.int cc), (.ref r0), (.int cc)] _
    refine XS.iconst X199.here hx rfl (hb hby d4_161) ?_
    show own_S p e below T199 m 162 _ [(.int 1), (.int cc), (.ref r0), (.int cc)] _
    refine XS.iadd X199.here hx rfl (hb hby d4_162) rfl ?_
    show own_S p e below T199 m 163 _ [(.int (cc + (1 : Int32))), (.ref r0), (.int cc)] _
    refine st200 _ ?_
    show own_S p e below T200 m 166 _ [(.int cc)] _
    exact retOut X200 hx Bd.returns rfl (Or.inl ⟨rfl, Or.inl rfl, _, rfl⟩) (hb hby d4_166) hr
  · show Qm4 Z r0 dc ra rb cc ci vc vf ve vg vp co fr er ev pl kco kfr ker kev kpl ka kb na nb la lb wR wH wB wI wV wP h0 n0 _ T200.heap _
    rw [e200]
    exact ⟨b133, b163, rfl, N200, KK202, sz_b133, sz_b163, (((((((Va107.other W118 (Ne.symm nq115)).ext E133).other W145 (Ne.symm nq139)).ext E163).other W176 (Ne.symm nq168)).other W194 (Ne.symm nq187)).other W200 (Ne.symm nq110)), ((((((Va118.ext E133).other W145 (Ne.symm nq141)).ext E163).other W176 (Ne.symm nq170)).other W194 (Ne.symm nq188)).other W200 (Ne.symm nq121)), ((((Va145.ext E163).other W176 (Ne.symm nq172)).other W194 (Ne.symm nq189)).other W200 (Ne.symm nq149)), ((Va176.other W194 (Ne.symm nq190)).other W200 (Ne.symm nq181)), (Va194.other W200 (Ne.symm nq197)), (((((V_b133.other W145 nq205).ext E163).other W176 nq207).other W194 (Ne.symm nq208)).other W200 nq210), (((V_b163.other W176 nq212).other W194 nq214).other W200 nq215), Fc203, Fc211, ((((((((F_costs_r0.other W107 (Or.inl nq110)).other W118 (Or.inl nq121)).ext E133).other W145 (Or.inl nq149)).ext E163).other W176 (Or.inl nq181)).other W194 (Or.inl nq197)).other W200 (Or.inr (Ne.symm (sn45 hw)))), (((((((Fc111.other W118 (Or.inl nq121)).ext E133).other W145 (Or.inl nq149)).ext E163).other W176 (Or.inl nq181)).other W194 (Or.inl nq197)).other W200 (Or.inr (Ne.symm (sn46 hw)))), ((((((Fc122.ext E133).other W145 (Or.inl nq149)).ext E163).other W176 (Or.inl nq181)).other W194 (Or.inl nq197)).other W200 (Or.inr (Ne.symm (sn47 hw)))), ((((Fc150.ext E163).other W176 (Or.inl nq181)).other W194 (Or.inl nq197)).other W200 (Or.inr (Ne.symm (sn48 hw)))), ((Fc182.other W194 (Or.inl nq197)).other W200 (Or.inr (Ne.symm (sn49 hw)))), ((((((((F_rows_r0.other W107 (Or.inl nq110)).other W118 (Or.inl nq121)).ext E133).other W145 (Or.inl nq149)).ext E163).other W176 (Or.inl nq181)).other W194 (Or.inl nq197)).other W200 (Or.inr (Ne.symm (sn50 hw)))), ((((((((F_rhs_r0.other W107 (Or.inl nq110)).other W118 (Or.inl nq121)).ext E133).other W145 (Or.inl nq149)).ext E163).other W176 (Or.inl nq181)).other W194 (Or.inl nq197)).other W200 (Or.inr (Ne.symm (sn51 hw)))), ((((((((F_basic_r0.other W107 (Or.inl nq110)).other W118 (Or.inl nq121)).ext E133).other W145 (Or.inl nq149)).ext E163).other W176 (Or.inl nq181)).other W194 (Or.inl nq197)).other W200 (Or.inr (Ne.symm (sn52 hw)))), ((((((((F_inverse_r0.other W107 (Or.inl nq110)).other W118 (Or.inl nq121)).ext E133).other W145 (Or.inl nq149)).ext E163).other W176 (Or.inl nq181)).other W194 (Or.inl nq197)).other W200 (Or.inr (Ne.symm (sn53 hw)))), ((((((((F_values_r0.other W107 (Or.inl nq110)).other W118 (Or.inl nq121)).ext E133).other W145 (Or.inl nq149)).ext E163).other W176 (Or.inl nq181)).other W194 (Or.inl nq197)).other W200 (Or.inr (Ne.symm (sn54 hw)))), Fw200, ((((((((F_pivotsSinceRefresh_r0.other W107 (Or.inl nq110)).other W118 (Or.inl nq121)).ext E133).other W145 (Or.inl nq149)).ext E163).other W176 (Or.inl nq181)).other W194 (Or.inl nq197)).other W200 (Or.inr (sn65 hw))), Fc209⟩
theorem d7_0 : decode k7 0 = .ok (.iconst 0, 1) := by decide +kernel
theorem d7_1 : decode k7 1 = .ok (.istore_n 3, 1) := by decide +kernel
theorem d7_2 : decode k7 2 = .ok (.aload_n 0, 1) := by decide +kernel
theorem d7_3 : decode k7 3 = .ok (.arraylength, 1) := by decide +kernel
theorem d7_4 : decode k7 4 = .ok (.istore 4, 2) := by decide +kernel
theorem d7_6 : decode k7 6 = .ok (.iload_n 3, 1) := by decide +kernel
theorem d7_7 : decode k7 7 = .ok (.iload 4, 2) := by decide +kernel
theorem d7_9 : decode k7 9 = .ok (.if_icmp .ge 13, 3) := by decide +kernel
theorem d7_12 : decode k7 12 = .ok (.aload_n 0, 1) := by decide +kernel
theorem d7_13 : decode k7 13 = .ok (.iload_n 3, 1) := by decide +kernel
theorem d7_14 : decode k7 14 = .ok (.dload_n 1, 1) := by decide +kernel
theorem d7_15 : decode k7 15 = .ok (.dastore, 1) := by decide +kernel
theorem d7_16 : decode k7 16 = .ok (.iinc 3 1, 3) := by decide +kernel
theorem d7_19 : decode k7 19 = .ok (.goto (-13), 3) := by decide +kernel
theorem d7_22 : decode k7 22 = .ok (.return_, 1) := by decide +kernel
theorem pn2 : plainName "java/util/Arrays" = true := by first | (simp [plainName, overriddenIn]; done) | decide +kernel
theorem efm7 (m : MethodId) (r0 : Addr) : entryFrame m #[(.ref r0), (.double 0)] 5 = mkF m 0 #[oR r0, oD 0, oV, oU, oU] [] := by first | (simp [entryFrame, mkF, argsToLocals, Value.category]; done) | rfl
def Qm7 (Z : State) (r0 : Addr) (k0 : ClassId) (x0 : UInt64) (x1 : UInt64) (h0 : Heap) (n0 : Nat) (v : Option Value) (h : Heap) (L : List Loc) : Prop := v = none ∧ Fr n0 L ∧ (Keep h0 h [r0]) ∧ (Arv Z h r0 k0 .double (2 : Int32) [(.double 0), (.double 0)] (.double 0))
set_option maxRecDepth 65536 in
set_option maxHeartbeats 40000000 in
theorem rmm7 (l : Launch) (Z : State) (a0 : Array Value) (hw : own_HW Z a0) (ws : List Jvm.Cond) (r0 : Addr) (k0 : ClassId) (x0 : UInt64) (x1 : UInt64) (h0 : Heap) (n0 : Nat) (Z0 : n0 ≤ h0.size) (V_r0 : Arv Z h0 r0 k0 .double (2 : Int32) [(.double x0), (.double x1)] (.double 0)) (g_r0 : n0 ≤ r0) :
    MetFree l (⟨"java/util/Arrays", "fill", "([DD)V"⟩ : MethodName) (head1 (Jvm.Cond.code (⟨"java/util/Arrays", "fill", "([DD)V"⟩ : MethodName) jdk_65_method_113_code 5 none :: ws) ({ frames := 0, cells := 0, slots := 0, locals := 0 } : Room)) (fun a U => a = #[(.ref r0), (.double 0)] ∧ Z.Warmed39 U.vm ∧ U.heap = h0) (fun _ _ _ _ _ => True) (fun _ U o U' => ∃ v L, o = .returned v ∧ Qm7 Z r0 k0 x0 x1 h0 n0 v U'.heap L ∧ FrameEnd U o U' L ({ frames := 0, cells := 0, slots := 0, locals := 0 } : Room).cells ({ frames := 0, cells := 0, slots := 0, locals := 0 } : Room).slots) := by
  refine MetFree.of_bodySF (plainFor_of_name pn2) hisR ?_
  intro p e s m args below meth c s₁ Bd hml0 hP hK
  obtain ⟨rfl, hZ, hh⟩ := hP
  have hx := Bd.exec
  have hby := Bd.bytes
  have hml : c.maxLocals = 5 := hml0
  have hown : s.vm.findClass "java/util/Arrays" = some m.cls := findClass_of_methodNamed Bd.named
  have hnm := (name_of_methodNamed Bd.named Bd.method).1
  have X0 : Stand p l e ({ frames := 0, cells := 0, slots := 0, locals := 0 } : Room) s m #[(.ref r0), (.double 0)] below meth c s₁ [] 0 0 := Stand.of_body Bd
  have e0 : s₁.heap = h0 := by rw [← hh, Bd.state]; rfl
  have N0 := Fr.nil n0
  have pre0 : ∀ t, Steps p.tables e below (s₁.setTop (mkF m 0 #[oR r0, oD 0, oV, oU, oU] [])) t → Steps p.tables e below (s₁.setTop (entryFrame m #[(.ref r0), (.double 0)] 5)) t := fun t k => castTop (efm7 m r0) k
  obtain ⟨cl101, Ar101, qk101, Sz101, Nz101, Hh101, Gg101⟩ := id V_r0
  have hin102 : ¬ ((0 : Int32) < 0 ∨ cl101.slots.size ≤ ((0 : Int32)).toNatClampNeg) := inb_of Sz101 ⟨by decide, by decide⟩
  obtain ⟨T103, h103, X103, e103, W103, st103⟩ := stD X0 hx hZ e0 Ar101 (j := (0 : Int32)) hin102 (g := (mkF m 15 #[oR r0, oD 0, oV, oI 0, oI 2] [(.double 0), (.int 0), (.ref r0)])) rfl rfl (hb hby d7_15)
  have Va103 := Arv.set Ar101 qk101 Sz101 Nz101 Hh101 Gg101 rfl W103 0 rfl (Nat.le_of_ble_eq_true rfl)
  have N103 := Fr.snoc X103 N0 g_r0
  have ZZ104 : n0 ≤ h103.size := Nat.le_trans Z0 (Nat.le_of_eq W103.size.symm)
  have KK105 : Keep h0 h103 [r0] := (Keep.refl h0 [r0]).wr W103 (Or.inl (List.mem_of_getElem? (i := 0) rfl))
  obtain ⟨cl106, Ar106, qk106, Sz106, Nz106, Hh106, Gg106⟩ := id Va103
  have hin107 : ¬ ((1 : Int32) < 0 ∨ cl106.slots.size ≤ ((1 : Int32)).toNatClampNeg) := inb_of Sz106 ⟨by decide, by decide⟩
  obtain ⟨T108, h108, X108, e108, W108, st108⟩ := stD X103 hx hZ e103 Ar106 (j := (1 : Int32)) hin107 (g := (mkF m 15 #[oR r0, oD 0, oV, oI 1, oI 2] [(.double 0), (.int 1), (.ref r0)])) rfl rfl (hb hby d7_15)
  have Va108 := Arv.set Ar106 qk106 Sz106 Nz106 Hh106 Gg106 rfl W108 1 rfl (Nat.le_of_ble_eq_true rfl)
  have N108 := Fr.snoc X108 N103 g_r0
  have ZZ109 : n0 ≤ h108.size := Nat.le_trans ZZ104 (Nat.le_of_eq W108.size.symm)
  have KK110 : Keep h0 h108 [r0] := KK105.wr W108 (Or.inl (List.mem_of_getElem? (i := 0) rfl))
  obtain ⟨fs, hr, hrun, hended, hW, hsame⟩ := X108.leave (v := none) (fun _ => rfl)
  refine ⟨_, _, pre0 _ ?_, hrun, hended, _, _, rfl, ?_, ⟨_, rfl⟩, hW, hsame.mono (by decide) (by decide)⟩
  · show own_S p e below s₁ m 0 #[oR r0, oD 0, oV, oU, oU] [] _
    refine XS.iconst X0.here hx rfl (hb hby d7_0) ?_
    refine XS.istoreN X0.here hx rfl (hb hby d7_1) rfl (l' := #[oR r0, oD 0, oV, oI 0, oU]) rfl ?_
    refine XS.aloadN X0.here hx rfl (hb hby d7_2) rfl rfl ?_
    show own_S p e below s₁ m 3 _ [(.ref r0)] _
    refine X0.arraylength hx (by rw [e0]; exact Ar101.1) (State.isArrayOf_alike hZ.alike Ar101.2.1) (g := (mkF m 3 #[oR r0, oD 0, oV, oI 0, oU] [(.ref r0)])) rfl rfl (hb hby d7_3) _ ?_
    rw [len_of Sz101 Nz101]
    show own_S p e below s₁ m 4 _ [(.int 2)] _
    refine XS.istore X0.here hx rfl (hb hby d7_4) rfl (l' := #[oR r0, oD 0, oV, oI 0, oI 2]) rfl ?_
    refine XS.iloadN X0.here hx rfl (hb hby d7_6) rfl ?_
    refine XS.iload X0.here hx rfl (hb hby d7_7) rfl ?_
    refine XS.icmpNo X0.here hx rfl (hb hby d7_9) rfl (tlt (by decide : (0 : Int32) < (2 : Int32))).2.1 ?_
    show own_S p e below s₁ m 12 _ [] _
    refine XS.aloadN X0.here hx rfl (hb hby d7_12) rfl rfl ?_
    refine XS.iloadN X0.here hx rfl (hb hby d7_13) rfl ?_
    refine XS.dloadN X0.here hx rfl (hb hby d7_14) rfl ?_
    show own_S p e below s₁ m 15 _ [(.double 0), (.int 0), (.ref r0)] _
    refine st103 _ ?_
    show own_S p e below T103 m 16 #[oR r0, oD 0, oV, oI 0, oI 2] [] _
    refine XS.iinc X103.here hx rfl (hb hby d7_16) rfl (l' := #[oR r0, oD 0, oV, oI 1, oI 2]) rfl ?_
    refine XS.goto X103.here hx rfl (pc0 := 19) (pc' := 6) rfl (hb hby d7_19) (by decide) (by decide) ?_
    refine XS.iloadN X103.here hx rfl (hb hby d7_6) rfl ?_
    refine XS.iload X103.here hx rfl (hb hby d7_7) rfl ?_
    show own_S p e below T103 m 9 _ [(.int 2), (.int 1)] _
    refine XS.icmpNo X103.here hx rfl (hb hby d7_9) rfl (tlt (by decide : (1 : Int32) < (2 : Int32))).2.1 ?_
    refine XS.aloadN X103.here hx rfl (hb hby d7_12) rfl rfl ?_
    refine XS.iloadN X103.here hx rfl (hb hby d7_13) rfl ?_
    refine XS.dloadN X103.here hx rfl (hb hby d7_14) rfl ?_
    show own_S p e below T103 m 15 #[oR r0, oD 0, oV, oI 1, oI 2] [(.double 0), (.int 1), (.ref r0)] _
    refine st108 _ ?_
    show own_S p e below T108 m 16 _ [] _
    refine XS.iinc X108.here hx rfl (hb hby d7_16) rfl (l' := #[oR r0, oD 0, oV, oI 2, oI 2]) rfl ?_
    refine XS.goto X108.here hx rfl (pc0 := 19) (pc' := 6) rfl (hb hby d7_19) (by decide) (by decide) ?_
    refine XS.iloadN X108.here hx rfl (hb hby d7_6) rfl ?_
    refine XS.iload X108.here hx rfl (hb hby d7_7) rfl ?_
    show own_S p e below T108 m 9 _ [(.int 2), (.int 2)] _
    refine XS.icmpYes X108.here hx rfl (pc0 := 9) (pc' := 22) rfl (hb hby d7_9) rfl (flt (by decide : ¬ ((2 : Int32) < (2 : Int32)))).2.1 (by decide) (by decide) ?_
    show own_S p e below T108 m 22 _ [] _
    exact X108.returnOut hx Bd.returns (hb hby d7_22) hr
  · show Qm7 Z r0 k0 x0 x1 h0 n0 _ T108.heap _
    rw [e108]
    exact ⟨rfl, N108, KK110, Va108⟩
theorem d9_0 : decode k9 0 = .ok (.aload_n 0, 1) := by decide +kernel
theorem d9_1 : decode k9 1 = .ok (.iload_n 1, 1) := by decide +kernel
theorem d9_2 : decode k9 2 = .ok (.aaload, 1) := by decide +kernel
theorem d9_3 : decode k9 3 = .ok (.astore_n 3, 1) := by decide +kernel
theorem d9_4 : decode k9 4 = .ok (.aload_n 0, 1) := by decide +kernel
theorem d9_5 : decode k9 5 = .ok (.iload_n 1, 1) := by decide +kernel
theorem d9_6 : decode k9 6 = .ok (.aload_n 0, 1) := by decide +kernel
theorem d9_7 : decode k9 7 = .ok (.iload_n 2, 1) := by decide +kernel
theorem d9_8 : decode k9 8 = .ok (.aaload, 1) := by decide +kernel
theorem d9_9 : decode k9 9 = .ok (.aastore, 1) := by decide +kernel
theorem d9_10 : decode k9 10 = .ok (.aload_n 0, 1) := by decide +kernel
theorem d9_11 : decode k9 11 = .ok (.iload_n 2, 1) := by decide +kernel
theorem d9_12 : decode k9 12 = .ok (.aload_n 3, 1) := by decide +kernel
theorem d9_13 : decode k9 13 = .ok (.aastore, 1) := by decide +kernel
theorem d9_14 : decode k9 14 = .ok (.return_, 1) := by decide +kernel
theorem efs00 (m : MethodId) (r0 : Addr) : entryFrame m #[(.ref r0), (.int 0), (.int 0)] 4 = mkF m 0 #[oR r0, oI 0, oI 0, oU] [] := by first | (simp [entryFrame, mkF, argsToLocals, Value.category]; done) | rfl
def Qs00 (Z : State) (r0 : Addr) (k0 : ClassId) (u0 : Addr) (u1 : Addr) (h0 : Heap) (n0 : Nat) (v : Option Value) (h : Heap) (L : List Loc) : Prop := v = none ∧ Fr n0 L ∧ (Keep h0 h [r0]) ∧ (Arv Z h r0 k0 (.array .double) (2 : Int32) [(.ref u0), (.ref u1)] .null)
set_option maxRecDepth 65536 in
set_option maxHeartbeats 40000000 in
theorem rms00 (l : Launch) (Z : State) (a0 : Array Value) (hw : own_HW Z a0) (ws : List Jvm.Cond) (r0 : Addr) (k0 : ClassId) (u0 : Addr) (u1 : Addr) (h0 : Heap) (n0 : Nat) (Z0 : n0 ≤ h0.size) (V_r0 : Arv Z h0 r0 k0 (.array .double) (2 : Int32) [(.ref u0), (.ref u1)] .null) (O_r0 : OvrA Z k0 .double "[D") (g_r0 : n0 ≤ r0) (E_u0 : Exa Z h0 u0 "[D") (E_u1 : Exa Z h0 u1 "[D") :
    MetFree l (⟨own_K1, "swap", "([[DII)V"⟩ : MethodName) (head1 (Jvm.Cond.code (⟨own_K1, "swap", "([[DII)V"⟩ : MethodName) prog_41_method_14_code 4 none :: ws) ({ frames := 0, cells := 0, slots := 0, locals := 0 } : Room)) (fun a U => a = #[(.ref r0), (.int 0), (.int 0)] ∧ Z.Warmed39 U.vm ∧ U.heap = h0) (fun _ _ _ _ _ => True) (fun _ U o U' => ∃ v L, o = .returned v ∧ Qs00 Z r0 k0 u0 u1 h0 n0 v U'.heap L ∧ FrameEnd U o U' L ({ frames := 0, cells := 0, slots := 0, locals := 0 } : Room).cells ({ frames := 0, cells := 0, slots := 0, locals := 0 } : Room).slots) := by
  refine MetFree.of_bodySF (plainFor_of_name pn1) hisR ?_
  intro p e s m args below meth c s₁ Bd hml0 hP hK
  obtain ⟨rfl, hZ, hh⟩ := hP
  have hx := Bd.exec
  have hby := Bd.bytes
  have hml : c.maxLocals = 4 := hml0
  have hown : s.vm.findClass own_K1 = some m.cls := findClass_of_methodNamed Bd.named
  have hnm := (name_of_methodNamed Bd.named Bd.method).1
  have X0 : Stand p l e ({ frames := 0, cells := 0, slots := 0, locals := 0 } : Room) s m #[(.ref r0), (.int 0), (.int 0)] below meth c s₁ [] 0 0 := Stand.of_body Bd
  have e0 : s₁.heap = h0 := by rw [← hh, Bd.state]; rfl
  have N0 := Fr.nil n0
  have pre0 : ∀ t, Steps p.tables e below (s₁.setTop (mkF m 0 #[oR r0, oI 0, oI 0, oU] [])) t → Steps p.tables e below (s₁.setTop (entryFrame m #[(.ref r0), (.int 0), (.int 0)] 4)) t := fun t k => castTop (efs00 m r0) k
  obtain ⟨cl101, Ar101, qk101, Sz101, Nz101, Hh101, Gg101⟩ := id V_r0
  have hin102 : ¬ ((0 : Int32) < 0 ∨ cl101.slots.size ≤ ((0 : Int32)).toNatClampNeg) := inb_of Sz101 ⟨by decide, by decide⟩
  have hat102 : cl101.slots[((0 : Int32)).toNatClampNeg]? = some (.ref u0) := Has.at Hh101 hin102 rfl
  have hin103 : ¬ ((0 : Int32) < 0 ∨ cl101.slots.size ≤ ((0 : Int32)).toNatClampNeg) := inb_of Sz101 ⟨by decide, by decide⟩
  have hat103 : cl101.slots[((0 : Int32)).toNatClampNeg]? = some (.ref u0) := Has.at Hh101 hin103 rfl
  have hin104 : ¬ ((0 : Int32) < 0 ∨ cl101.slots.size ≤ ((0 : Int32)).toNatClampNeg) := inb_of Sz101 ⟨by decide, by decide⟩
  obtain ⟨T105, h105, X105, e105, W105, st105⟩ := stR X0 hx hZ e0 Ar101 (j := (0 : Int32)) hin104 rfl (Sto.ofVA Ar101 qk101 O_r0 (Ins.self E_u0)) (g := (mkF m 9 #[oR r0, oI 0, oI 0, oR u0] [(.ref u0), (.int 0), (.ref r0)])) rfl rfl (hb hby d9_9)
  have Va105 := Arv.set Ar101 qk101 Sz101 Nz101 Hh101 Gg101 rfl W105 0 rfl (Nat.le_of_ble_eq_true rfl)
  have N105 := Fr.snoc X105 N0 g_r0
  have ZZ106 : n0 ≤ h105.size := Nat.le_trans Z0 (Nat.le_of_eq W105.size.symm)
  have KK107 : Keep h0 h105 [r0] := (Keep.refl h0 [r0]).wr W105 (Or.inl (List.mem_of_getElem? (i := 0) rfl))
  obtain ⟨cl108, Ar108, qk108, Sz108, Nz108, Hh108, Gg108⟩ := id Va105
  have hin109 : ¬ ((0 : Int32) < 0 ∨ cl108.slots.size ≤ ((0 : Int32)).toNatClampNeg) := inb_of Sz108 ⟨by decide, by decide⟩
  obtain ⟨T110, h110, X110, e110, W110, st110⟩ := stR X105 hx hZ e105 Ar108 (j := (0 : Int32)) hin109 rfl (Sto.ofVA Ar108 qk108 O_r0 (Ins.self (E_u0.wr W105))) (g := (mkF m 13 #[oR r0, oI 0, oI 0, oR u0] [(.ref u0), (.int 0), (.ref r0)])) rfl rfl (hb hby d9_13)
  have Va110 := Arv.set Ar108 qk108 Sz108 Nz108 Hh108 Gg108 rfl W110 0 rfl (Nat.le_of_ble_eq_true rfl)
  have N110 := Fr.snoc X110 N105 g_r0
  have ZZ111 : n0 ≤ h110.size := Nat.le_trans ZZ106 (Nat.le_of_eq W110.size.symm)
  have KK112 : Keep h0 h110 [r0] := KK107.wr W110 (Or.inl (List.mem_of_getElem? (i := 0) rfl))
  obtain ⟨fs, hr, hrun, hended, hW, hsame⟩ := X110.leave (v := none) (fun _ => rfl)
  refine ⟨_, _, pre0 _ ?_, hrun, hended, _, _, rfl, ?_, ⟨_, rfl⟩, hW, hsame.mono (by decide) (by decide)⟩
  · show own_S p e below s₁ m 0 #[oR r0, oI 0, oI 0, oU] [] _
    refine XS.aloadN X0.here hx rfl (hb hby d9_0) rfl rfl ?_
    refine XS.iloadN X0.here hx rfl (hb hby d9_1) rfl ?_
    show own_S p e below s₁ m 2 _ [(.int 0), (.ref r0)] _
    refine X0.aaload hx (j := (0 : Int32)) (v := (.ref u0)) (by rw [e0]; exact Ar101.1) (State.isArrayOf_alike hZ.alike Ar101.2.1) rfl Ar101.2.2 hin102 hat102 (g := (mkF m 2 #[oR r0, oI 0, oI 0, oU] [(.int 0), (.ref r0)])) rfl rfl (hb hby d9_2) _ ?_
    show own_S p e below s₁ m 3 _ [(.ref u0)] _
    refine XS.astoreN X0.here hx rfl (hb hby d9_3) rfl rfl (l' := #[oR r0, oI 0, oI 0, oR u0]) rfl ?_
    refine XS.aloadN X0.here hx rfl (hb hby d9_4) rfl rfl ?_
    refine XS.iloadN X0.here hx rfl (hb hby d9_5) rfl ?_
    refine XS.aloadN X0.here hx rfl (hb hby d9_6) rfl rfl ?_
    show own_S p e below s₁ m 7 _ [(.ref r0), (.int 0), (.ref r0)] _
    refine XS.iloadN X0.here hx rfl (hb hby d9_7) rfl ?_
    show own_S p e below s₁ m 8 _ [(.int 0), (.ref r0), (.int 0), (.ref r0)] _
    refine X0.aaload hx (j := (0 : Int32)) (v := (.ref u0)) (by rw [e0]; exact Ar101.1) (State.isArrayOf_alike hZ.alike Ar101.2.1) rfl Ar101.2.2 hin103 hat103 (g := (mkF m 8 #[oR r0, oI 0, oI 0, oR u0] [(.int 0), (.ref r0), (.int 0), (.ref r0)])) rfl rfl (hb hby d9_8) _ ?_
    show own_S p e below s₁ m 9 _ [(.ref u0), (.int 0), (.ref r0)] _
    refine st105 _ ?_
    show own_S p e below T105 m 10 _ [] _
    refine XS.aloadN X105.here hx rfl (hb hby d9_10) rfl rfl ?_
    refine XS.iloadN X105.here hx rfl (hb hby d9_11) rfl ?_
    refine XS.aloadN X105.here hx rfl (hb hby d9_12) rfl rfl ?_
    show own_S p e below T105 m 13 _ [(.ref u0), (.int 0), (.ref r0)] _
    refine st110 _ ?_
    show own_S p e below T110 m 14 _ [] _
    exact X110.returnOut hx Bd.returns (hb hby d9_14) hr
  · show Qs00 Z r0 k0 u0 u1 h0 n0 _ T110.heap _
    rw [e110]
    exact ⟨rfl, N110, KK112, Va110⟩
theorem efs01 (m : MethodId) (r0 : Addr) : entryFrame m #[(.ref r0), (.int 0), (.int 1)] 4 = mkF m 0 #[oR r0, oI 0, oI 1, oU] [] := by first | (simp [entryFrame, mkF, argsToLocals, Value.category]; done) | rfl
def Qs01 (Z : State) (r0 : Addr) (k0 : ClassId) (u0 : Addr) (u1 : Addr) (h0 : Heap) (n0 : Nat) (v : Option Value) (h : Heap) (L : List Loc) : Prop := v = none ∧ Fr n0 L ∧ (Keep h0 h [r0]) ∧ (Arv Z h r0 k0 (.array .double) (2 : Int32) [(.ref u1), (.ref u0)] .null)
set_option maxRecDepth 65536 in
set_option maxHeartbeats 40000000 in
theorem rms01 (l : Launch) (Z : State) (a0 : Array Value) (hw : own_HW Z a0) (ws : List Jvm.Cond) (r0 : Addr) (k0 : ClassId) (u0 : Addr) (u1 : Addr) (h0 : Heap) (n0 : Nat) (Z0 : n0 ≤ h0.size) (V_r0 : Arv Z h0 r0 k0 (.array .double) (2 : Int32) [(.ref u0), (.ref u1)] .null) (O_r0 : OvrA Z k0 .double "[D") (g_r0 : n0 ≤ r0) (E_u0 : Exa Z h0 u0 "[D") (E_u1 : Exa Z h0 u1 "[D") :
    MetFree l (⟨own_K1, "swap", "([[DII)V"⟩ : MethodName) (head1 (Jvm.Cond.code (⟨own_K1, "swap", "([[DII)V"⟩ : MethodName) prog_41_method_14_code 4 none :: ws) ({ frames := 0, cells := 0, slots := 0, locals := 0 } : Room)) (fun a U => a = #[(.ref r0), (.int 0), (.int 1)] ∧ Z.Warmed39 U.vm ∧ U.heap = h0) (fun _ _ _ _ _ => True) (fun _ U o U' => ∃ v L, o = .returned v ∧ Qs01 Z r0 k0 u0 u1 h0 n0 v U'.heap L ∧ FrameEnd U o U' L ({ frames := 0, cells := 0, slots := 0, locals := 0 } : Room).cells ({ frames := 0, cells := 0, slots := 0, locals := 0 } : Room).slots) := by
  refine MetFree.of_bodySF (plainFor_of_name pn1) hisR ?_
  intro p e s m args below meth c s₁ Bd hml0 hP hK
  obtain ⟨rfl, hZ, hh⟩ := hP
  have hx := Bd.exec
  have hby := Bd.bytes
  have hml : c.maxLocals = 4 := hml0
  have hown : s.vm.findClass own_K1 = some m.cls := findClass_of_methodNamed Bd.named
  have hnm := (name_of_methodNamed Bd.named Bd.method).1
  have X0 : Stand p l e ({ frames := 0, cells := 0, slots := 0, locals := 0 } : Room) s m #[(.ref r0), (.int 0), (.int 1)] below meth c s₁ [] 0 0 := Stand.of_body Bd
  have e0 : s₁.heap = h0 := by rw [← hh, Bd.state]; rfl
  have N0 := Fr.nil n0
  have pre0 : ∀ t, Steps p.tables e below (s₁.setTop (mkF m 0 #[oR r0, oI 0, oI 1, oU] [])) t → Steps p.tables e below (s₁.setTop (entryFrame m #[(.ref r0), (.int 0), (.int 1)] 4)) t := fun t k => castTop (efs01 m r0) k
  obtain ⟨cl101, Ar101, qk101, Sz101, Nz101, Hh101, Gg101⟩ := id V_r0
  have hin102 : ¬ ((0 : Int32) < 0 ∨ cl101.slots.size ≤ ((0 : Int32)).toNatClampNeg) := inb_of Sz101 ⟨by decide, by decide⟩
  have hat102 : cl101.slots[((0 : Int32)).toNatClampNeg]? = some (.ref u0) := Has.at Hh101 hin102 rfl
  have hin103 : ¬ ((1 : Int32) < 0 ∨ cl101.slots.size ≤ ((1 : Int32)).toNatClampNeg) := inb_of Sz101 ⟨by decide, by decide⟩
  have hat103 : cl101.slots[((1 : Int32)).toNatClampNeg]? = some (.ref u1) := Has.at Hh101 hin103 rfl
  have hin104 : ¬ ((0 : Int32) < 0 ∨ cl101.slots.size ≤ ((0 : Int32)).toNatClampNeg) := inb_of Sz101 ⟨by decide, by decide⟩
  obtain ⟨T105, h105, X105, e105, W105, st105⟩ := stR X0 hx hZ e0 Ar101 (j := (0 : Int32)) hin104 rfl (Sto.ofVA Ar101 qk101 O_r0 (Ins.self E_u1)) (g := (mkF m 9 #[oR r0, oI 0, oI 1, oR u0] [(.ref u1), (.int 0), (.ref r0)])) rfl rfl (hb hby d9_9)
  have Va105 := Arv.set Ar101 qk101 Sz101 Nz101 Hh101 Gg101 rfl W105 0 rfl (Nat.le_of_ble_eq_true rfl)
  have N105 := Fr.snoc X105 N0 g_r0
  have ZZ106 : n0 ≤ h105.size := Nat.le_trans Z0 (Nat.le_of_eq W105.size.symm)
  have KK107 : Keep h0 h105 [r0] := (Keep.refl h0 [r0]).wr W105 (Or.inl (List.mem_of_getElem? (i := 0) rfl))
  obtain ⟨cl108, Ar108, qk108, Sz108, Nz108, Hh108, Gg108⟩ := id Va105
  have hin109 : ¬ ((1 : Int32) < 0 ∨ cl108.slots.size ≤ ((1 : Int32)).toNatClampNeg) := inb_of Sz108 ⟨by decide, by decide⟩
  obtain ⟨T110, h110, X110, e110, W110, st110⟩ := stR X105 hx hZ e105 Ar108 (j := (1 : Int32)) hin109 rfl (Sto.ofVA Ar108 qk108 O_r0 (Ins.self (E_u0.wr W105))) (g := (mkF m 13 #[oR r0, oI 0, oI 1, oR u0] [(.ref u0), (.int 1), (.ref r0)])) rfl rfl (hb hby d9_13)
  have Va110 := Arv.set Ar108 qk108 Sz108 Nz108 Hh108 Gg108 rfl W110 1 rfl (Nat.le_of_ble_eq_true rfl)
  have N110 := Fr.snoc X110 N105 g_r0
  have ZZ111 : n0 ≤ h110.size := Nat.le_trans ZZ106 (Nat.le_of_eq W110.size.symm)
  have KK112 : Keep h0 h110 [r0] := KK107.wr W110 (Or.inl (List.mem_of_getElem? (i := 0) rfl))
  obtain ⟨fs, hr, hrun, hended, hW, hsame⟩ := X110.leave (v := none) (fun _ => rfl)
  refine ⟨_, _, pre0 _ ?_, hrun, hended, _, _, rfl, ?_, ⟨_, rfl⟩, hW, hsame.mono (by decide) (by decide)⟩
  · show own_S p e below s₁ m 0 #[oR r0, oI 0, oI 1, oU] [] _
    refine XS.aloadN X0.here hx rfl (hb hby d9_0) rfl rfl ?_
    refine XS.iloadN X0.here hx rfl (hb hby d9_1) rfl ?_
    show own_S p e below s₁ m 2 _ [(.int 0), (.ref r0)] _
    refine X0.aaload hx (j := (0 : Int32)) (v := (.ref u0)) (by rw [e0]; exact Ar101.1) (State.isArrayOf_alike hZ.alike Ar101.2.1) rfl Ar101.2.2 hin102 hat102 (g := (mkF m 2 #[oR r0, oI 0, oI 1, oU] [(.int 0), (.ref r0)])) rfl rfl (hb hby d9_2) _ ?_
    show own_S p e below s₁ m 3 _ [(.ref u0)] _
    refine XS.astoreN X0.here hx rfl (hb hby d9_3) rfl rfl (l' := #[oR r0, oI 0, oI 1, oR u0]) rfl ?_
    refine XS.aloadN X0.here hx rfl (hb hby d9_4) rfl rfl ?_
    refine XS.iloadN X0.here hx rfl (hb hby d9_5) rfl ?_
    refine XS.aloadN X0.here hx rfl (hb hby d9_6) rfl rfl ?_
    show own_S p e below s₁ m 7 _ [(.ref r0), (.int 0), (.ref r0)] _
    refine XS.iloadN X0.here hx rfl (hb hby d9_7) rfl ?_
    show own_S p e below s₁ m 8 _ [(.int 1), (.ref r0), (.int 0), (.ref r0)] _
    refine X0.aaload hx (j := (1 : Int32)) (v := (.ref u1)) (by rw [e0]; exact Ar101.1) (State.isArrayOf_alike hZ.alike Ar101.2.1) rfl Ar101.2.2 hin103 hat103 (g := (mkF m 8 #[oR r0, oI 0, oI 1, oR u0] [(.int 1), (.ref r0), (.int 0), (.ref r0)])) rfl rfl (hb hby d9_8) _ ?_
    show own_S p e below s₁ m 9 _ [(.ref u1), (.int 0), (.ref r0)] _
    refine st105 _ ?_
    show own_S p e below T105 m 10 _ [] _
    refine XS.aloadN X105.here hx rfl (hb hby d9_10) rfl rfl ?_
    refine XS.iloadN X105.here hx rfl (hb hby d9_11) rfl ?_
    refine XS.aloadN X105.here hx rfl (hb hby d9_12) rfl rfl ?_
    show own_S p e below T105 m 13 _ [(.ref u0), (.int 1), (.ref r0)] _
    refine st110 _ ?_
    show own_S p e below T110 m 14 _ [] _
    exact X110.returnOut hx Bd.returns (hb hby d9_14) hr
  · show Qs01 Z r0 k0 u0 u1 h0 n0 _ T110.heap _
    rw [e110]
    exact ⟨rfl, N110, KK112, Va110⟩
theorem efs11 (m : MethodId) (r0 : Addr) : entryFrame m #[(.ref r0), (.int 1), (.int 1)] 4 = mkF m 0 #[oR r0, oI 1, oI 1, oU] [] := by first | (simp [entryFrame, mkF, argsToLocals, Value.category]; done) | rfl
def Qs11 (Z : State) (r0 : Addr) (k0 : ClassId) (u0 : Addr) (u1 : Addr) (h0 : Heap) (n0 : Nat) (v : Option Value) (h : Heap) (L : List Loc) : Prop := v = none ∧ Fr n0 L ∧ (Keep h0 h [r0]) ∧ (Arv Z h r0 k0 (.array .double) (2 : Int32) [(.ref u0), (.ref u1)] .null)
set_option maxRecDepth 65536 in
set_option maxHeartbeats 40000000 in
theorem rms11 (l : Launch) (Z : State) (a0 : Array Value) (hw : own_HW Z a0) (ws : List Jvm.Cond) (r0 : Addr) (k0 : ClassId) (u0 : Addr) (u1 : Addr) (h0 : Heap) (n0 : Nat) (Z0 : n0 ≤ h0.size) (V_r0 : Arv Z h0 r0 k0 (.array .double) (2 : Int32) [(.ref u0), (.ref u1)] .null) (O_r0 : OvrA Z k0 .double "[D") (g_r0 : n0 ≤ r0) (E_u0 : Exa Z h0 u0 "[D") (E_u1 : Exa Z h0 u1 "[D") :
    MetFree l (⟨own_K1, "swap", "([[DII)V"⟩ : MethodName) (head1 (Jvm.Cond.code (⟨own_K1, "swap", "([[DII)V"⟩ : MethodName) prog_41_method_14_code 4 none :: ws) ({ frames := 0, cells := 0, slots := 0, locals := 0 } : Room)) (fun a U => a = #[(.ref r0), (.int 1), (.int 1)] ∧ Z.Warmed39 U.vm ∧ U.heap = h0) (fun _ _ _ _ _ => True) (fun _ U o U' => ∃ v L, o = .returned v ∧ Qs11 Z r0 k0 u0 u1 h0 n0 v U'.heap L ∧ FrameEnd U o U' L ({ frames := 0, cells := 0, slots := 0, locals := 0 } : Room).cells ({ frames := 0, cells := 0, slots := 0, locals := 0 } : Room).slots) := by
  refine MetFree.of_bodySF (plainFor_of_name pn1) hisR ?_
  intro p e s m args below meth c s₁ Bd hml0 hP hK
  obtain ⟨rfl, hZ, hh⟩ := hP
  have hx := Bd.exec
  have hby := Bd.bytes
  have hml : c.maxLocals = 4 := hml0
  have hown : s.vm.findClass own_K1 = some m.cls := findClass_of_methodNamed Bd.named
  have hnm := (name_of_methodNamed Bd.named Bd.method).1
  have X0 : Stand p l e ({ frames := 0, cells := 0, slots := 0, locals := 0 } : Room) s m #[(.ref r0), (.int 1), (.int 1)] below meth c s₁ [] 0 0 := Stand.of_body Bd
  have e0 : s₁.heap = h0 := by rw [← hh, Bd.state]; rfl
  have N0 := Fr.nil n0
  have pre0 : ∀ t, Steps p.tables e below (s₁.setTop (mkF m 0 #[oR r0, oI 1, oI 1, oU] [])) t → Steps p.tables e below (s₁.setTop (entryFrame m #[(.ref r0), (.int 1), (.int 1)] 4)) t := fun t k => castTop (efs11 m r0) k
  obtain ⟨cl101, Ar101, qk101, Sz101, Nz101, Hh101, Gg101⟩ := id V_r0
  have hin102 : ¬ ((1 : Int32) < 0 ∨ cl101.slots.size ≤ ((1 : Int32)).toNatClampNeg) := inb_of Sz101 ⟨by decide, by decide⟩
  have hat102 : cl101.slots[((1 : Int32)).toNatClampNeg]? = some (.ref u1) := Has.at Hh101 hin102 rfl
  have hin103 : ¬ ((1 : Int32) < 0 ∨ cl101.slots.size ≤ ((1 : Int32)).toNatClampNeg) := inb_of Sz101 ⟨by decide, by decide⟩
  have hat103 : cl101.slots[((1 : Int32)).toNatClampNeg]? = some (.ref u1) := Has.at Hh101 hin103 rfl
  have hin104 : ¬ ((1 : Int32) < 0 ∨ cl101.slots.size ≤ ((1 : Int32)).toNatClampNeg) := inb_of Sz101 ⟨by decide, by decide⟩
  obtain ⟨T105, h105, X105, e105, W105, st105⟩ := stR X0 hx hZ e0 Ar101 (j := (1 : Int32)) hin104 rfl (Sto.ofVA Ar101 qk101 O_r0 (Ins.self E_u1)) (g := (mkF m 9 #[oR r0, oI 1, oI 1, oR u1] [(.ref u1), (.int 1), (.ref r0)])) rfl rfl (hb hby d9_9)
  have Va105 := Arv.set Ar101 qk101 Sz101 Nz101 Hh101 Gg101 rfl W105 1 rfl (Nat.le_of_ble_eq_true rfl)
  have N105 := Fr.snoc X105 N0 g_r0
  have ZZ106 : n0 ≤ h105.size := Nat.le_trans Z0 (Nat.le_of_eq W105.size.symm)
  have KK107 : Keep h0 h105 [r0] := (Keep.refl h0 [r0]).wr W105 (Or.inl (List.mem_of_getElem? (i := 0) rfl))
  obtain ⟨cl108, Ar108, qk108, Sz108, Nz108, Hh108, Gg108⟩ := id Va105
  have hin109 : ¬ ((1 : Int32) < 0 ∨ cl108.slots.size ≤ ((1 : Int32)).toNatClampNeg) := inb_of Sz108 ⟨by decide, by decide⟩
  obtain ⟨T110, h110, X110, e110, W110, st110⟩ := stR X105 hx hZ e105 Ar108 (j := (1 : Int32)) hin109 rfl (Sto.ofVA Ar108 qk108 O_r0 (Ins.self (E_u1.wr W105))) (g := (mkF m 13 #[oR r0, oI 1, oI 1, oR u1] [(.ref u1), (.int 1), (.ref r0)])) rfl rfl (hb hby d9_13)
  have Va110 := Arv.set Ar108 qk108 Sz108 Nz108 Hh108 Gg108 rfl W110 1 rfl (Nat.le_of_ble_eq_true rfl)
  have N110 := Fr.snoc X110 N105 g_r0
  have ZZ111 : n0 ≤ h110.size := Nat.le_trans ZZ106 (Nat.le_of_eq W110.size.symm)
  have KK112 : Keep h0 h110 [r0] := KK107.wr W110 (Or.inl (List.mem_of_getElem? (i := 0) rfl))
  obtain ⟨fs, hr, hrun, hended, hW, hsame⟩ := X110.leave (v := none) (fun _ => rfl)
  refine ⟨_, _, pre0 _ ?_, hrun, hended, _, _, rfl, ?_, ⟨_, rfl⟩, hW, hsame.mono (by decide) (by decide)⟩
  · show own_S p e below s₁ m 0 #[oR r0, oI 1, oI 1, oU] [] _
    refine XS.aloadN X0.here hx rfl (hb hby d9_0) rfl rfl ?_
    refine XS.iloadN X0.here hx rfl (hb hby d9_1) rfl ?_
    show own_S p e below s₁ m 2 _ [(.int 1), (.ref r0)] _
    refine X0.aaload hx (j := (1 : Int32)) (v := (.ref u1)) (by rw [e0]; exact Ar101.1) (State.isArrayOf_alike hZ.alike Ar101.2.1) rfl Ar101.2.2 hin102 hat102 (g := (mkF m 2 #[oR r0, oI 1, oI 1, oU] [(.int 1), (.ref r0)])) rfl rfl (hb hby d9_2) _ ?_
    show own_S p e below s₁ m 3 _ [(.ref u1)] _
    refine XS.astoreN X0.here hx rfl (hb hby d9_3) rfl rfl (l' := #[oR r0, oI 1, oI 1, oR u1]) rfl ?_
    refine XS.aloadN X0.here hx rfl (hb hby d9_4) rfl rfl ?_
    refine XS.iloadN X0.here hx rfl (hb hby d9_5) rfl ?_
    refine XS.aloadN X0.here hx rfl (hb hby d9_6) rfl rfl ?_
    show own_S p e below s₁ m 7 _ [(.ref r0), (.int 1), (.ref r0)] _
    refine XS.iloadN X0.here hx rfl (hb hby d9_7) rfl ?_
    show own_S p e below s₁ m 8 _ [(.int 1), (.ref r0), (.int 1), (.ref r0)] _
    refine X0.aaload hx (j := (1 : Int32)) (v := (.ref u1)) (by rw [e0]; exact Ar101.1) (State.isArrayOf_alike hZ.alike Ar101.2.1) rfl Ar101.2.2 hin103 hat103 (g := (mkF m 8 #[oR r0, oI 1, oI 1, oR u1] [(.int 1), (.ref r0), (.int 1), (.ref r0)])) rfl rfl (hb hby d9_8) _ ?_
    show own_S p e below s₁ m 9 _ [(.ref u1), (.int 1), (.ref r0)] _
    refine st105 _ ?_
    show own_S p e below T105 m 10 _ [] _
    refine XS.aloadN X105.here hx rfl (hb hby d9_10) rfl rfl ?_
    refine XS.iloadN X105.here hx rfl (hb hby d9_11) rfl ?_
    refine XS.aloadN X105.here hx rfl (hb hby d9_12) rfl rfl ?_
    show own_S p e below T105 m 13 _ [(.ref u1), (.int 1), (.ref r0)] _
    refine st110 _ ?_
    show own_S p e below T110 m 14 _ [] _
    exact X110.returnOut hx Bd.returns (hb hby d9_14) hr
  · show Qs11 Z r0 k0 u0 u1 h0 n0 _ T110.heap _
    rw [e110]
    exact ⟨rfl, N110, KK112, Va110⟩
theorem pd0 : parseMethodDescriptor "(DD)D" = some ⟨[.double, .double], some .double⟩ := by decide +kernel
theorem d10_0 : decode k10 0 = .ok (.ldc2_w 131, 3) := by decide +kernel
theorem d10_3 : decode k10 3 = .ok (.dstore_n 1, 1) := by decide +kernel
theorem d10_4 : decode k10 4 = .ok (.iconst 0, 1) := by decide +kernel
theorem d10_5 : decode k10 5 = .ok (.istore_n 3, 1) := by decide +kernel
theorem d10_6 : decode k10 6 = .ok (.iload_n 3, 1) := by decide +kernel
theorem d10_7 : decode k10 7 = .ok (.aload_n 0, 1) := by decide +kernel
theorem d10_8 : decode k10 8 = .ok (.getfield 31, 3) := by decide +kernel
theorem d10_11 : decode k10 11 = .ok (.if_icmp .ge 34, 3) := by decide +kernel
theorem d10_14 : decode k10 14 = .ok (.aload_n 0, 1) := by decide +kernel
theorem d10_15 : decode k10 15 = .ok (.getfield 13, 3) := by decide +kernel
theorem d10_18 : decode k10 18 = .ok (.aload_n 0, 1) := by decide +kernel
theorem d10_19 : decode k10 19 = .ok (.getfield 42, 3) := by decide +kernel
theorem d10_22 : decode k10 22 = .ok (.iload_n 3, 1) := by decide +kernel
theorem d10_23 : decode k10 23 = .ok (.iaload, 1) := by decide +kernel
theorem d10_24 : decode k10 24 = .ok (.baload, 1) := by decide +kernel
theorem d10_25 : decode k10 25 = .ok (.ifCond .ne 14, 3) := by decide +kernel
theorem d10_28 : decode k10 28 = .ok (.dload_n 1, 1) := by decide +kernel
theorem d10_29 : decode k10 29 = .ok (.aload_n 0, 1) := by decide +kernel
theorem d10_30 : decode k10 30 = .ok (.getfield 49, 3) := by decide +kernel
theorem d10_33 : decode k10 33 = .ok (.iload_n 3, 1) := by decide +kernel
theorem d10_34 : decode k10 34 = .ok (.daload, 1) := by decide +kernel
theorem d10_35 : decode k10 35 = .ok (.invokestatic 137, 3) := by decide +kernel
theorem d10_38 : decode k10 38 = .ok (.dstore_n 1, 1) := by decide +kernel
theorem d10_39 : decode k10 39 = .ok (.iinc 3 1, 3) := by decide +kernel
theorem d10_42 : decode k10 42 = .ok (.goto (-36), 3) := by decide +kernel
theorem d10_45 : decode k10 45 = .ok (.dload_n 1, 1) := by decide +kernel
theorem d10_46 : decode k10 46 = .ok (.dreturn, 1) := by decide +kernel
theorem efm10 (m : MethodId) (r0 : Addr) : entryFrame m #[(.ref r0)] 4 = mkF m 0 #[oR r0, oU, oU, oU] [] := by first | (simp [entryFrame, mkF, argsToLocals, Value.category]; done) | rfl
def Qm10 (Z : State) (r0 : Addr) (fr : Addr) (ba : Addr) (va : Addr) (kfr : ClassId) (kba : ClassId) (kva : ClassId) (b0 : Int32) (b1 : Int32) (h0 : Heap) (n0 : Nat) (v : Option Value) (h : Heap) (L : List Loc) : Prop := v = some (.double 4607182418800017408) ∧ Fr n0 L ∧ (h = h0)
set_option maxRecDepth 65536 in
set_option maxHeartbeats 40000000 in
theorem rmm10 (l : Launch) (Z : State) (a0 : Array Value) (hw : own_HW Z a0) (ws : List Jvm.Cond) (r0 : Addr) (fr : Addr) (ba : Addr) (va : Addr) (kfr : ClassId) (kba : ClassId) (kva : ClassId) (b0 : Int32) (b1 : Int32) (h0 : Heap) (n0 : Nat) (Z0 : n0 ≤ h0.size) (F_rows_r0 : Fld Z h0 r0 own_K1 "rows" "I" (.int 2)) (F_free_r0 : Fld Z h0 r0 own_K1 "free" "[Z" (.ref fr)) (F_basic_r0 : Fld Z h0 r0 own_K1 "basic" "[I" (.ref ba)) (F_values_r0 : Fld Z h0 r0 own_K1 "values" "[D" (.ref va)) (E_r0 : Exa Z h0 r0 own_K1) (V_fr : Arv Z h0 fr kfr .boolean (16 : Int32) [(.int 0), (.int 0), (.int 0)] (.int 0)) (V_ba : Arv Z h0 ba kba .int (2 : Int32) [(.int b0), (.int b1)] (.int 0)) (V_va : Arv Z h0 va kva .double (2 : Int32) [(.double 4607182418800017408), (.double 4607182418800017408)] (.double 0)) (hi0 : ¬ b0 < (0 : Int32) ∧ b0 < (16 : Int32)) (hi1 : ¬ b1 < (0 : Int32) ∧ b1 < (16 : Int32)) (hf0 : ([.int 0, .int 0, .int 0] : List Value).getD b0.toNatClampNeg (.int 0) = .int 0) (hf1 : ([.int 0, .int 0, .int 0] : List Value).getD b1.toNatClampNeg (.int 0) = .int 0) :
    MetFree l (⟨own_K1, "leastBoundedValue", "()D"⟩ : MethodName) (head1 (Jvm.Cond.code (⟨own_K1, "leastBoundedValue", "()D"⟩ : MethodName) prog_41_method_13_code 4 (some .double) :: ws) ({ frames := 1, cells := 0, slots := 0, locals := 15 } : Room)) (fun a U => a = #[(.ref r0)] ∧ Z.Warmed39 U.vm ∧ U.heap = h0) (fun _ _ _ _ _ => True) (fun _ U o U' => ∃ v L, o = .returned v ∧ Qm10 Z r0 fr ba va kfr kba kva b0 b1 h0 n0 v U'.heap L ∧ FrameEnd U o U' L ({ frames := 1, cells := 0, slots := 0, locals := 15 } : Room).cells ({ frames := 1, cells := 0, slots := 0, locals := 15 } : Room).slots) := by
  refine MetFree.of_bodySF (plainFor_of_name pn1) hisR ?_
  intro p e s m args below meth c s₁ Bd hml0 hP hK
  obtain ⟨rfl, hZ, hh⟩ := hP
  have hx := Bd.exec
  have hby := Bd.bytes
  have hml : c.maxLocals = 4 := hml0
  have hown : s.vm.findClass own_K1 = some m.cls := findClass_of_methodNamed Bd.named
  have hnm := (name_of_methodNamed Bd.named Bd.method).1
  have X0 : Stand p l e ({ frames := 1, cells := 0, slots := 0, locals := 15 } : Room) s m #[(.ref r0)] below meth c s₁ [] 0 0 := Stand.of_body Bd
  have e0 : s₁.heap = h0 := by rw [← hh, Bd.state]; rfl
  have N0 := Fr.nil n0
  have pre0 : ∀ t, Steps p.tables e below (s₁.setTop (mkF m 0 #[oR r0, oU, oU, oU] [])) t → Steps p.tables e below (s₁.setTop (entryFrame m #[(.ref r0)] 4)) t := fun t k => castTop (efm10 m r0) k
  obtain ⟨T101, X101, e101, st101⟩ := getF X0 hx hZ hown (host := "") (Or.inl (own_w hw 30 rfl)) Via.refl e0 F_rows_r0 (g := (mkF m 8 #[oR r0, oD 9218868437227405312, oV, oI 0] [(.ref r0), (.int 0)])) rfl rfl (hb hby d10_8)
  obtain ⟨T102, X102, e102, st102⟩ := getF X101 hx hZ hown (host := "") (Or.inl (own_w hw 17 rfl)) Via.refl e101 F_free_r0 (g := (mkF m 15 #[oR r0, oD 9218868437227405312, oV, oI 0] [(.ref r0)])) rfl rfl (hb hby d10_15)
  obtain ⟨T103, X103, e103, st103⟩ := getF X102 hx hZ hown (host := "") (Or.inl (own_w hw 42 rfl)) Via.refl e102 F_basic_r0 (g := (mkF m 19 #[oR r0, oD 9218868437227405312, oV, oI 0] [(.ref r0), (.ref fr)])) rfl rfl (hb hby d10_19)
  obtain ⟨cl104, Ar104, qk104, Sz104, Nz104, Hh104, Gg104⟩ := id V_ba
  have hin105 : ¬ ((0 : Int32) < 0 ∨ cl104.slots.size ≤ ((0 : Int32)).toNatClampNeg) := inb_of Sz104 ⟨by decide, by decide⟩
  have hat105 : cl104.slots[((0 : Int32)).toNatClampNeg]? = some (.int b0) := Has.at Hh104 hin105 rfl
  obtain ⟨cl106, Ar106, qk106, Sz106, Nz106, Hh106, Gg106⟩ := id V_fr
  have hin107 : ¬ (b0 < 0 ∨ cl106.slots.size ≤ (b0).toNatClampNeg) := inb_of Sz106 hi0
  have hat107 : cl106.slots[(b0).toNatClampNeg]? = some (.int 0) := Has.at Hh106 hin107 hf0
  obtain ⟨T108, X108, e108, st108⟩ := getF X103 hx hZ hown (host := "") (Or.inl (own_w hw 47 rfl)) Via.refl e103 F_values_r0 (g := (mkF m 30 #[oR r0, oD 9218868437227405312, oV, oI 0] [(.ref r0), (.double 9218868437227405312)])) rfl rfl (hb hby d10_30)
  obtain ⟨cl109, Ar109, qk109, Sz109, Nz109, Hh109, Gg109⟩ := id V_va
  have hin110 : ¬ ((0 : Int32) < 0 ∨ cl109.slots.size ≤ ((0 : Int32)).toNatClampNeg) := inb_of Sz109 ⟨by decide, by decide⟩
  have hat110 : cl109.slots[((0 : Int32)).toNatClampNeg]? = some (.double 4607182418800017408) := Has.at Hh109 hin110 rfl
  obtain ⟨T111, X111, e111, st111⟩ := natS X108 hx hZ hown (own_w hw 90 rfl) (own_w hw 91 rfl) (own_w hw 77 rfl) (own_w hw 92 rfl) (by decide) e108 (W := 0) (fun q => Jvm.Free.Fl.Abs.minD_pays (9218868437227405312 : UInt64) (4607182418800017408 : UInt64) q (by decide) (by decide)) (g := (mkF m 35 #[oR r0, oD 9218868437227405312, oV, oI 0] [(.double 4607182418800017408), (.double 9218868437227405312)])) rfl (by rw [hml]; rfl) (argsL := [(.double 9218868437227405312), (.double 4607182418800017408)]) (rest := []) (lenOf pd0 rfl) rfl (by show 2 * 0 + _ ≤ _; exact Nat.le_of_eq rfl) (hb hby d10_35) (by decide) (by decide) ⟨rfl, by unfold NoNaN64; decide, by unfold NoNaN64; decide⟩ (congrArg Value.double ((by decide +kernel) : (Jvm.Native.java_lang_Math.nans.pick64 false (9218868437227405312 : UInt64) (4607182418800017408 : UInt64)) = (4607182418800017408 : UInt64)))
  obtain ⟨T112, X112, e112, st112⟩ := getF X111 hx hZ hown (host := "") (Or.inl (own_w hw 30 rfl)) Via.refl e111 F_rows_r0 (g := (mkF m 8 #[oR r0, oD 4607182418800017408, oV, oI 1] [(.ref r0), (.int 1)])) rfl rfl (hb hby d10_8)
  obtain ⟨T113, X113, e113, st113⟩ := getF X112 hx hZ hown (host := "") (Or.inl (own_w hw 17 rfl)) Via.refl e112 F_free_r0 (g := (mkF m 15 #[oR r0, oD 4607182418800017408, oV, oI 1] [(.ref r0)])) rfl rfl (hb hby d10_15)
  obtain ⟨T114, X114, e114, st114⟩ := getF X113 hx hZ hown (host := "") (Or.inl (own_w hw 42 rfl)) Via.refl e113 F_basic_r0 (g := (mkF m 19 #[oR r0, oD 4607182418800017408, oV, oI 1] [(.ref r0), (.ref fr)])) rfl rfl (hb hby d10_19)
  have hin115 : ¬ ((1 : Int32) < 0 ∨ cl104.slots.size ≤ ((1 : Int32)).toNatClampNeg) := inb_of Sz104 ⟨by decide, by decide⟩
  have hat115 : cl104.slots[((1 : Int32)).toNatClampNeg]? = some (.int b1) := Has.at Hh104 hin115 rfl
  have hin116 : ¬ (b1 < 0 ∨ cl106.slots.size ≤ (b1).toNatClampNeg) := inb_of Sz106 hi1
  have hat116 : cl106.slots[(b1).toNatClampNeg]? = some (.int 0) := Has.at Hh106 hin116 hf1
  obtain ⟨T117, X117, e117, st117⟩ := getF X114 hx hZ hown (host := "") (Or.inl (own_w hw 47 rfl)) Via.refl e114 F_values_r0 (g := (mkF m 30 #[oR r0, oD 4607182418800017408, oV, oI 1] [(.ref r0), (.double 4607182418800017408)])) rfl rfl (hb hby d10_30)
  have hin118 : ¬ ((1 : Int32) < 0 ∨ cl109.slots.size ≤ ((1 : Int32)).toNatClampNeg) := inb_of Sz109 ⟨by decide, by decide⟩
  have hat118 : cl109.slots[((1 : Int32)).toNatClampNeg]? = some (.double 4607182418800017408) := Has.at Hh109 hin118 rfl
  obtain ⟨T119, X119, e119, st119⟩ := natS X117 hx hZ hown (own_w hw 90 rfl) (own_w hw 91 rfl) (own_w hw 77 rfl) (own_w hw 92 rfl) (by decide) e117 (W := 0) (fun q => Jvm.Free.Fl.Abs.minD_pays (4607182418800017408 : UInt64) (4607182418800017408 : UInt64) q (by decide) (by decide)) (g := (mkF m 35 #[oR r0, oD 4607182418800017408, oV, oI 1] [(.double 4607182418800017408), (.double 4607182418800017408)])) rfl (by rw [hml]; rfl) (argsL := [(.double 4607182418800017408), (.double 4607182418800017408)]) (rest := []) (lenOf pd0 rfl) rfl (by show 2 * 0 + _ ≤ _; exact Nat.le_of_eq rfl) (hb hby d10_35) (by decide) (by decide) ⟨rfl, by unfold NoNaN64; decide, by unfold NoNaN64; decide⟩ (congrArg Value.double ((by decide +kernel) : (Jvm.Native.java_lang_Math.nans.pick64 false (4607182418800017408 : UInt64) (4607182418800017408 : UInt64)) = (4607182418800017408 : UInt64)))
  obtain ⟨T120, X120, e120, st120⟩ := getF X119 hx hZ hown (host := "") (Or.inl (own_w hw 30 rfl)) Via.refl e119 F_rows_r0 (g := (mkF m 8 #[oR r0, oD 4607182418800017408, oV, oI 2] [(.ref r0), (.int 2)])) rfl rfl (hb hby d10_8)
  obtain ⟨fs, hr, hrun, hended, hW, hsame⟩ := X120.leave (v := some (.double 4607182418800017408)) (fun h => by rw [Bd.returns] at h; cases h)
  refine ⟨_, _, pre0 _ ?_, hrun, hended, _, _, rfl, ?_, ⟨_, rfl⟩, hW, hsame.mono (by decide) (by decide)⟩
  · show own_S p e below s₁ m 0 #[oR r0, oU, oU, oU] [] _
    refine X0.ldc2DoubleC hx hown (mvT hZ (own_w hw 89 rfl)) (g := (mkF m 0 #[oR r0, oU, oU, oU] [])) rfl (hb hby d10_0) _ ?_
    show own_S p e below s₁ m 3 _ [(.double 9218868437227405312)] _
    refine XS.dstoreN X0.here hx rfl (hb hby d10_3) rfl (l' := #[oR r0, oD 9218868437227405312, oV, oU]) rfl ?_
    refine XS.iconst X0.here hx rfl (hb hby d10_4) ?_
    refine XS.istoreN X0.here hx rfl (hb hby d10_5) rfl (l' := #[oR r0, oD 9218868437227405312, oV, oI 0]) rfl ?_
    refine XS.iloadN X0.here hx rfl (hb hby d10_6) rfl ?_
    show own_S p e below s₁ m 7 _ [(.int 0)] _
    refine XS.aloadN X0.here hx rfl (hb hby d10_7) rfl rfl ?_
    show own_S p e below s₁ m 8 _ [(.ref r0), (.int 0)] _
    refine st101 _ ?_
    show own_S p e below T101 m 11 _ [(.int 2), (.int 0)] _
    refine XS.icmpNo X101.here hx rfl (hb hby d10_11) rfl (tlt (by decide : (0 : Int32) < (2 : Int32))).2.1 ?_
    refine XS.aloadN X101.here hx rfl (hb hby d10_14) rfl rfl ?_
    show own_S p e below T101 m 15 _ [(.ref r0)] _
    refine st102 _ ?_
    show own_S p e below T102 m 18 _ [(.ref fr)] _
    refine XS.aloadN X102.here hx rfl (hb hby d10_18) rfl rfl ?_
    show own_S p e below T102 m 19 #[oR r0, oD 9218868437227405312, oV, oI 0] [(.ref r0), (.ref fr)] _
    refine st103 _ ?_
    show own_S p e below T103 m 22 _ [(.ref ba), (.ref fr)] _
    refine XS.iloadN X103.here hx rfl (hb hby d10_22) rfl ?_
    show own_S p e below T103 m 23 _ [(.int 0), (.ref ba), (.ref fr)] _
    refine X103.iaload hx (j := (0 : Int32)) (v := (.int b0)) (by rw [e103]; exact Ar104.1) (State.isArrayOf_alike hZ.alike Ar104.2.1) Ar104.2.2 hin105 hat105 (g := (mkF m 23 #[oR r0, oD 9218868437227405312, oV, oI 0] [(.int 0), (.ref ba), (.ref fr)])) rfl rfl (hb hby d10_23) _ ?_
    show own_S p e below T103 m 24 _ [(.int b0), (.ref fr)] _
    refine X103.baloadBooleans hx (j := b0) (v := (.int 0)) (by rw [e103]; exact Ar106.1) (State.isArrayOf_alike hZ.alike Ar106.2.1) Ar106.2.2 hin107 hat107 (g := (mkF m 24 #[oR r0, oD 9218868437227405312, oV, oI 0] [(.int b0), (.ref fr)])) rfl rfl (hb hby d10_24) _ ?_
    show own_S p e below T103 m 25 _ [(.int 0)] _
    refine XS.ifNo X103.here hx rfl (hb hby d10_25) rfl ((if0 _ _).trans (teq (by decide : (0 : Int32) = (0 : Int32))).2) ?_
    refine XS.dloadN X103.here hx rfl (hb hby d10_28) rfl ?_
    refine XS.aloadN X103.here hx rfl (hb hby d10_29) rfl rfl ?_
    show own_S p e below T103 m 30 #[oR r0, oD 9218868437227405312, oV, oI 0] [(.ref r0), (.double 9218868437227405312)] _
    refine st108 _ ?_
    show own_S p e below T108 m 33 _ [(.ref va), (.double 9218868437227405312)] _
    refine XS.iloadN X108.here hx rfl (hb hby d10_33) rfl ?_
    show own_S p e below T108 m 34 _ [(.int 0), (.ref va), (.double 9218868437227405312)] _
    refine X108.daload hx (j := (0 : Int32)) (v := (.double 4607182418800017408)) (by rw [e108]; exact Ar109.1) (State.isArrayOf_alike hZ.alike Ar109.2.1) Ar109.2.2 hin110 hat110 (g := (mkF m 34 #[oR r0, oD 9218868437227405312, oV, oI 0] [(.int 0), (.ref va), (.double 9218868437227405312)])) rfl rfl (hb hby d10_34) _ ?_
    show own_S p e below T108 m 35 _ [(.double 4607182418800017408), (.double 9218868437227405312)] _
    refine st111 _ ?_
    show own_S p e below T111 m 38 _ [(.double 4607182418800017408)] _
    refine XS.dstoreN X111.here hx rfl (hb hby d10_38) rfl (l' := #[oR r0, oD 4607182418800017408, oV, oI 0]) rfl ?_
    refine XS.iinc X111.here hx rfl (hb hby d10_39) rfl (l' := #[oR r0, oD 4607182418800017408, oV, oI 1]) rfl ?_
    refine XS.goto X111.here hx rfl (pc0 := 42) (pc' := 6) rfl (hb hby d10_42) (by decide) (by decide) ?_
    refine XS.iloadN X111.here hx rfl (hb hby d10_6) rfl ?_
    show own_S p e below T111 m 7 _ [(.int 1)] _
    refine XS.aloadN X111.here hx rfl (hb hby d10_7) rfl rfl ?_
    show own_S p e below T111 m 8 _ [(.ref r0), (.int 1)] _
    refine st112 _ ?_
    show own_S p e below T112 m 11 _ [(.int 2), (.int 1)] _
    refine XS.icmpNo X112.here hx rfl (hb hby d10_11) rfl (tlt (by decide : (1 : Int32) < (2 : Int32))).2.1 ?_
    refine XS.aloadN X112.here hx rfl (hb hby d10_14) rfl rfl ?_
    show own_S p e below T112 m 15 _ [(.ref r0)] _
    refine st113 _ ?_
    show own_S p e below T113 m 18 #[oR r0, oD 4607182418800017408, oV, oI 1] [(.ref fr)] _
    refine XS.aloadN X113.here hx rfl (hb hby d10_18) rfl rfl ?_
    show own_S p e below T113 m 19 _ [(.ref r0), (.ref fr)] _
    refine st114 _ ?_
    show own_S p e below T114 m 22 _ [(.ref ba), (.ref fr)] _
    refine XS.iloadN X114.here hx rfl (hb hby d10_22) rfl ?_
    show own_S p e below T114 m 23 _ [(.int 1), (.ref ba), (.ref fr)] _
    refine X114.iaload hx (j := (1 : Int32)) (v := (.int b1)) (by rw [e114]; exact Ar104.1) (State.isArrayOf_alike hZ.alike Ar104.2.1) Ar104.2.2 hin115 hat115 (g := (mkF m 23 #[oR r0, oD 4607182418800017408, oV, oI 1] [(.int 1), (.ref ba), (.ref fr)])) rfl rfl (hb hby d10_23) _ ?_
    show own_S p e below T114 m 24 _ [(.int b1), (.ref fr)] _
    refine X114.baloadBooleans hx (j := b1) (v := (.int 0)) (by rw [e114]; exact Ar106.1) (State.isArrayOf_alike hZ.alike Ar106.2.1) Ar106.2.2 hin116 hat116 (g := (mkF m 24 #[oR r0, oD 4607182418800017408, oV, oI 1] [(.int b1), (.ref fr)])) rfl rfl (hb hby d10_24) _ ?_
    show own_S p e below T114 m 25 _ [(.int 0)] _
    refine XS.ifNo X114.here hx rfl (hb hby d10_25) rfl ((if0 _ _).trans (teq (by decide : (0 : Int32) = (0 : Int32))).2) ?_
    refine XS.dloadN X114.here hx rfl (hb hby d10_28) rfl ?_
    refine XS.aloadN X114.here hx rfl (hb hby d10_29) rfl rfl ?_
    show own_S p e below T114 m 30 _ [(.ref r0), (.double 4607182418800017408)] _
    refine st117 _ ?_
    show own_S p e below T117 m 33 _ [(.ref va), (.double 4607182418800017408)] _
    refine XS.iloadN X117.here hx rfl (hb hby d10_33) rfl ?_
    show own_S p e below T117 m 34 _ [(.int 1), (.ref va), (.double 4607182418800017408)] _
    refine X117.daload hx (j := (1 : Int32)) (v := (.double 4607182418800017408)) (by rw [e117]; exact Ar109.1) (State.isArrayOf_alike hZ.alike Ar109.2.1) Ar109.2.2 hin118 hat118 (g := (mkF m 34 #[oR r0, oD 4607182418800017408, oV, oI 1] [(.int 1), (.ref va), (.double 4607182418800017408)])) rfl rfl (hb hby d10_34) _ ?_
    show own_S p e below T117 m 35 _ [(.double 4607182418800017408), (.double 4607182418800017408)] _
    refine st119 _ ?_
    show own_S p e below T119 m 38 _ [(.double 4607182418800017408)] _
    refine XS.dstoreN X119.here hx rfl (hb hby d10_38) rfl (l' := #[oR r0, oD 4607182418800017408, oV, oI 1]) rfl ?_
    refine XS.iinc X119.here hx rfl (hb hby d10_39) rfl (l' := #[oR r0, oD 4607182418800017408, oV, oI 2]) rfl ?_
    refine XS.goto X119.here hx rfl (pc0 := 42) (pc' := 6) rfl (hb hby d10_42) (by decide) (by decide) ?_
    refine XS.iloadN X119.here hx rfl (hb hby d10_6) rfl ?_
    show own_S p e below T119 m 7 _ [(.int 2)] _
    refine XS.aloadN X119.here hx rfl (hb hby d10_7) rfl rfl ?_
    show own_S p e below T119 m 8 _ [(.ref r0), (.int 2)] _
    refine st120 _ ?_
    show own_S p e below T120 m 11 _ [(.int 2), (.int 2)] _
    refine XS.icmpYes X120.here hx rfl (pc0 := 11) (pc' := 45) rfl (hb hby d10_11) rfl (flt (by decide : ¬ ((2 : Int32) < (2 : Int32)))).2.1 (by decide) (by decide) ?_
    refine XS.dloadN X120.here hx rfl (hb hby d10_45) rfl ?_
    show own_S p e below T120 m 46 _ [(.double 4607182418800017408)] _
    exact retOut X120 hx Bd.returns rfl (Or.inr (Or.inr (Or.inl ⟨rfl, rfl, _, rfl⟩))) (hb hby d10_46) hr
  · show Qm10 Z r0 fr ba va kfr kba kva b0 b1 h0 n0 _ T120.heap _
    rw [e120]
    exact ⟨rfl, N0, rfl⟩
theorem pd1 : parseMethodDescriptor "(D)D" = some ⟨[.double], some .double⟩ := by decide +kernel
theorem pd2 : parseMethodDescriptor "([[DII)V" = some ⟨[(.array (.array .double)), .int, .int], none⟩ := by decide +kernel
theorem d6_154 : decode k6 154 = .ok (.aload_n 1, 1) := by decide +kernel
theorem d6_155 : decode k6 155 = .ok (.iload_n 3, 1) := by decide +kernel
theorem d6_156 : decode k6 156 = .ok (.aaload, 1) := by decide +kernel
theorem d6_157 : decode k6 157 = .ok (.iload_n 2, 1) := by decide +kernel
theorem d6_158 : decode k6 158 = .ok (.daload, 1) := by decide +kernel
theorem d6_159 : decode k6 159 = .ok (.invokestatic 121, 3) := by decide +kernel
theorem d6_162 : decode k6 162 = .ok (.ldc2_w 133, 3) := by decide +kernel
theorem d6_165 : decode k6 165 = .ok (.dcmp .g, 1) := by decide +kernel
theorem d6_166 : decode k6 166 = .ok (.ifCond .ge 5, 3) := by decide +kernel
theorem d6_171 : decode k6 171 = .ok (.aload_n 1, 1) := by decide +kernel
theorem d6_172 : decode k6 172 = .ok (.iload_n 2, 1) := by decide +kernel
theorem d6_173 : decode k6 173 = .ok (.iload_n 3, 1) := by decide +kernel
theorem d6_174 : decode k6 174 = .ok (.invokestatic 144, 3) := by decide +kernel
theorem d6_177 : decode k6 177 = .ok (.aload_n 0, 1) := by decide +kernel
theorem d6_178 : decode k6 178 = .ok (.getfield 46, 3) := by decide +kernel
theorem d6_181 : decode k6 181 = .ok (.iload_n 2, 1) := by decide +kernel
theorem d6_182 : decode k6 182 = .ok (.iload_n 3, 1) := by decide +kernel
theorem d6_183 : decode k6 183 = .ok (.invokestatic 144, 3) := by decide +kernel
set_option maxRecDepth 65536 in
set_option maxHeartbeats 40000000 in
theorem own_C0 (l : Launch) (Z : State) (a0 : Array Value) (hw : own_HW Z a0) (r0 : Addr) (rw : Addr) (ri : Addr) (u0 : Addr) (u1 : Addr) (j0 : Addr) (j1 : Addr) (kw : ClassId) (kri : ClassId) (ku : ClassId) (ma : UInt64) (mb : UInt64) (h0 : Heap) (n0 : Nat) (Z0 : n0 ≤ h0.size) (F_inverse_r0 : Fld Z h0 r0 own_K1 "inverse" "[[D" (.ref ri)) (V_rw : Arv Z h0 rw kw (.array .double) (2 : Int32) [(.ref u0), (.ref u1)] .null) (V_ri : Arv Z h0 ri kri (.array .double) (2 : Int32) [(.ref j0), (.ref j1)] .null) (V_u0 : Arv Z h0 u0 ku .double (2 : Int32) [(.double ma), (.double mb)] (.double 0)) (E_r0 : Exa Z h0 r0 own_K1) (E_rw : Exa Z h0 rw "[[D") (E_ri : Exa Z h0 ri "[[D") (E_u0 : Exa Z h0 u0 "[D") (E_u1 : Exa Z h0 u1 "[D") (E_j0 : Exa Z h0 j0 "[D") (E_j1 : Exa Z h0 j1 "[D") (O_rw : OvrA Z kw .double "[D") (O_ri : OvrA Z kri .double "[D") (g_rw : n0 ≤ rw) (g_ri : n0 ≤ ri) (ne_rw_ri : rw ≠ ri) (hT : own_tol ma)
    {p : Program} {e : Env} {s : State} {m : MethodId} {args : Array Value} {below : List Frame} {meth : Method} {c : Code} {s₁ : State} {Lc : List Loc} (hx : p.tables.exec = Jvm.exec) (hby : c.code = prog_41_method_12_code) (hml : c.maxLocals = 10) (hZ : Z.Warmed39 s.vm) (hown : s.vm.findClass own_K1 = some m.cls) (hnm : meth.name = "refresh") (X0 : Stand p l e ({ frames := 1, cells := 3, slots := 6, locals := 40 } : Room) s m args below meth c s₁ Lc 3 6) (e0 : s₁.heap = h0) (N0 : Fr n0 Lc) :
    ∃ T : State, ∃ L : List Loc, Stand p l e ({ frames := 1, cells := 3, slots := 6, locals := 40 } : Room) s m args below meth c T L 3 6 ∧ Fr n0 L ∧ (Keep h0 T.heap [rw, ri]) ∧ (Arv Z T.heap rw kw (.array .double) (2 : Int32) [(.ref u0), (.ref u1)] .null) ∧ (Arv Z T.heap ri kri (.array .double) (2 : Int32) [(.ref j0), (.ref j1)] .null) ∧ ∀ t, Steps p.tables e below (T.setTop (mkF m 186 #[oR r0, oR rw, oI 0, oI 0, oI 2, oU, oU, oU, oU, oU] [])) t → Steps p.tables e below (s₁.setTop (mkF m 154 #[oR r0, oR rw, oI 0, oI 0, oI 2, oU, oU, oU, oU, oU] [])) t := by
  obtain ⟨cl101, Ar101, qk101, Sz101, Nz101, Hh101, Gg101⟩ := id V_rw
  have hin102 : ¬ ((0 : Int32) < 0 ∨ cl101.slots.size ≤ ((0 : Int32)).toNatClampNeg) := inb_of Sz101 ⟨by decide, by decide⟩
  have hat102 : cl101.slots[((0 : Int32)).toNatClampNeg]? = some (.ref u0) := Has.at Hh101 hin102 rfl
  obtain ⟨cl103, Ar103, qk103, Sz103, Nz103, Hh103, Gg103⟩ := id V_u0
  have hin104 : ¬ ((0 : Int32) < 0 ∨ cl103.slots.size ≤ ((0 : Int32)).toNatClampNeg) := inb_of Sz103 ⟨by decide, by decide⟩
  have hat104 : cl103.slots[((0 : Int32)).toNatClampNeg]? = some (.double ma) := Has.at Hh103 hin104 rfl
  obtain ⟨T105, X105, e105, st105⟩ := natS X0 hx hZ hown (own_w hw 75 rfl) (own_w hw 76 rfl) (own_w hw 77 rfl) (own_w hw 78 rfl) (by decide) e0 (W := 0) (fun q => Jvm.Free.Fl.Abs.absD_pays ma q (by decide) (by decide)) (g := (mkF m 159 #[oR r0, oR rw, oI 0, oI 0, oI 2, oU, oU, oU, oU, oU] [(.double ma)])) rfl (by rw [hml]; rfl) (argsL := [(.double ma)]) (rest := []) (lenOf pd1 rfl) rfl (by show 2 * 0 + _ ≤ _; exact Nat.le_of_eq rfl) (hb hby d6_159) (by decide) (by decide) ⟨rfl, hT.1⟩ rfl
  obtain ⟨_, T106, L106, X106, hQ106, st106⟩ := own_cS X105 hx hZ hw hown (W := 0) (rms00 l Z a0 hw [] rw kw u0 u1 h0 n0 Z0 V_rw O_rw g_rw E_u0 E_u1) (by decide) (by decide) (by decide) 80 rfl 81 rfl 7 rfl 82 rfl e105 (g := (mkF m 174 #[oR r0, oR rw, oI 0, oI 0, oI 2, oU, oU, oU, oU, oU] [(.int 0), (.int 0), (.ref rw)])) rfl (by rw [hml]; rfl) (argsL := [(.ref rw), (.int 0), (.int 0)]) (rest := []) (lenOf pd2 rfl) rfl (Nat.le_of_eq rfl) (hb hby d6_174) rfl (cN := 3) rfl (by decide) (sN := 6) rfl (by decide)
  obtain ⟨rfl, Nq106, P106_0, P106_1⟩ := hQ106
  have N106 := Fr.app N0 Nq106
  have ZZ107 : n0 ≤ T106.heap.size := Nat.le_trans Z0 P106_0.1
  have KK108 : Keep h0 T106.heap [rw, ri] := Keep.trans (Keep.refl h0 [rw, ri]) P106_0 (allS (Or.inl (List.mem_of_getElem? (i := 0) rfl)) all0)
  have nq109 : r0 ≠ rw := (ne_exa (E_r0.keep P106_0) (E_rw.keep P106_0) (by decide))
  have Fc110 := (F_inverse_r0.keep P106_0 (ninS nq109 nin0))
  obtain ⟨T111, X111, e111, st111⟩ := getF X106 hx hZ hown (host := "") (Or.inl (own_w hw 45 rfl)) Via.refl rfl Fc110 (g := (mkF m 178 #[oR r0, oR rw, oI 0, oI 0, oI 2, oU, oU, oU, oU, oU] [(.ref r0)])) rfl rfl (hb hby d6_178)
  have Fc112 := (V_ri.keep P106_0 (ninS (Ne.symm ne_rw_ri) nin0))
  obtain ⟨_, T113, L113, X113, hQ113, st113⟩ := own_cS X111 hx hZ hw hown (W := 0) (rms00 l Z a0 hw [] ri kri j0 j1 T106.heap n0 ZZ107 Fc112 O_ri g_ri (E_j0.keep P106_0) (E_j1.keep P106_0)) (by decide) (by decide) (by decide) 80 rfl 81 rfl 7 rfl 82 rfl e111 (g := (mkF m 183 #[oR r0, oR rw, oI 0, oI 0, oI 2, oU, oU, oU, oU, oU] [(.int 0), (.int 0), (.ref ri)])) rfl (by rw [hml]; rfl) (argsL := [(.ref ri), (.int 0), (.int 0)]) (rest := []) (lenOf pd2 rfl) rfl (Nat.le_of_eq rfl) (hb hby d6_183) rfl (cN := 3) rfl (by decide) (sN := 6) rfl (by decide)
  obtain ⟨rfl, Nq113, P113_0, P113_1⟩ := hQ113
  have N113 := Fr.app N106 Nq113
  have ZZ114 : n0 ≤ T113.heap.size := Nat.le_trans ZZ107 P113_0.1
  have KK115 : Keep h0 T113.heap [rw, ri] := Keep.trans KK108 P113_0 (allS (Or.inl (List.mem_of_getElem? (i := 1) rfl)) all0)
  refine ⟨_, _, X113, N113, KK115, (P106_1.keep P113_0 (ninS ne_rw_ri nin0)), P113_1, fun t kt => ?_⟩
  show own_S p e below s₁ m 154 #[oR r0, oR rw, oI 0, oI 0, oI 2, oU, oU, oU, oU, oU] [] _
  refine XS.aloadN X0.here hx rfl (hb hby d6_154) rfl rfl ?_
  refine XS.iloadN X0.here hx rfl (hb hby d6_155) rfl ?_
  show own_S p e below s₁ m 156 _ [(.int 0), (.ref rw)] _
  refine X0.aaload hx (j := (0 : Int32)) (v := (.ref u0)) (by rw [e0]; exact Ar101.1) (State.isArrayOf_alike hZ.alike Ar101.2.1) rfl Ar101.2.2 hin102 hat102 (g := (mkF m 156 #[oR r0, oR rw, oI 0, oI 0, oI 2, oU, oU, oU, oU, oU] [(.int 0), (.ref rw)])) rfl rfl (hb hby d6_156) _ ?_
  show own_S p e below s₁ m 157 _ [(.ref u0)] _
  refine XS.iloadN X0.here hx rfl (hb hby d6_157) rfl ?_
  show own_S p e below s₁ m 158 _ [(.int 0), (.ref u0)] _
  refine X0.daload hx (j := (0 : Int32)) (v := (.double ma)) (by rw [e0]; exact Ar103.1) (State.isArrayOf_alike hZ.alike Ar103.2.1) Ar103.2.2 hin104 hat104 (g := (mkF m 158 #[oR r0, oR rw, oI 0, oI 0, oI 2, oU, oU, oU, oU, oU] [(.int 0), (.ref u0)])) rfl rfl (hb hby d6_158) _ ?_
  show own_S p e below s₁ m 159 _ [(.double ma)] _
  refine st105 _ ?_
  show own_S p e below T105 m 162 _ [(.double (ma &&& 0x7fffffffffffffff))] _
  refine X105.ldc2DoubleC hx hown (mvT hZ (own_w hw 79 rfl)) (g := (mkF m 162 #[oR r0, oR rw, oI 0, oI 0, oI 2, oU, oU, oU, oU, oU] [(.double (ma &&& 0x7fffffffffffffff))])) rfl (hb hby d6_162) _ ?_
  show own_S p e below T105 m 165 #[oR r0, oR rw, oI 0, oI 0, oI 2, oU, oU, oU, oU, oU] [(.double 4472406533629990549), (.double (ma &&& 0x7fffffffffffffff))] _
  refine XS.dcmpS X105.here hx rfl (v := (cmpValue (FP.dcmp (ma &&& 0x7fffffffffffffff) (4472406533629990549 : UInt64)) .g)) (hb hby d6_165) rfl rfl ?_
  show own_S p e below T105 m 166 _ [(.int (cmpValue (FP.dcmp (ma &&& 0x7fffffffffffffff) (4472406533629990549 : UInt64)) .g))] _
  refine XS.ifYes X105.here hx rfl (pc0 := 166) (pc' := 171) rfl (hb hby d6_166) rfl ((if0 _ _).trans (flt (hT.2 : ¬ ((cmpValue (FP.dcmp (ma &&& 0x7fffffffffffffff) (4472406533629990549 : UInt64)) .g) < (0 : Int32)))).2.1) (by decide) (by decide) ?_
  refine XS.aloadN X105.here hx rfl (hb hby d6_171) rfl rfl ?_
  refine XS.iloadN X105.here hx rfl (hb hby d6_172) rfl ?_
  refine XS.iloadN X105.here hx rfl (hb hby d6_173) rfl ?_
  show own_S p e below T105 m 174 _ [(.int 0), (.int 0), (.ref rw)] _
  refine st106.trans ?_
  show own_S p e below T106 m 177 _ [] _
  refine XS.aloadN X106.here hx rfl (hb hby d6_177) rfl rfl ?_
  show own_S p e below T106 m 178 #[oR r0, oR rw, oI 0, oI 0, oI 2, oU, oU, oU, oU, oU] [(.ref r0)] _
  refine st111 _ ?_
  show own_S p e below T111 m 181 _ [(.ref ri)] _
  refine XS.iloadN X111.here hx rfl (hb hby d6_181) rfl ?_
  refine XS.iloadN X111.here hx rfl (hb hby d6_182) rfl ?_
  show own_S p e below T111 m 183 _ [(.int 0), (.int 0), (.ref ri)] _
  refine st113.trans ?_
  exact kt
set_option maxRecDepth 65536 in
set_option maxHeartbeats 40000000 in
theorem own_C1 (l : Launch) (Z : State) (a0 : Array Value) (hw : own_HW Z a0) (r0 : Addr) (rw : Addr) (ri : Addr) (u0 : Addr) (u1 : Addr) (j0 : Addr) (j1 : Addr) (kw : ClassId) (kri : ClassId) (ku : ClassId) (ma : UInt64) (mb : UInt64) (h0 : Heap) (n0 : Nat) (Z0 : n0 ≤ h0.size) (F_inverse_r0 : Fld Z h0 r0 own_K1 "inverse" "[[D" (.ref ri)) (V_rw : Arv Z h0 rw kw (.array .double) (2 : Int32) [(.ref u0), (.ref u1)] .null) (V_ri : Arv Z h0 ri kri (.array .double) (2 : Int32) [(.ref j0), (.ref j1)] .null) (V_u1 : Arv Z h0 u1 ku .double (2 : Int32) [(.double ma), (.double mb)] (.double 0)) (E_r0 : Exa Z h0 r0 own_K1) (E_rw : Exa Z h0 rw "[[D") (E_ri : Exa Z h0 ri "[[D") (E_u0 : Exa Z h0 u0 "[D") (E_u1 : Exa Z h0 u1 "[D") (E_j0 : Exa Z h0 j0 "[D") (E_j1 : Exa Z h0 j1 "[D") (O_rw : OvrA Z kw .double "[D") (O_ri : OvrA Z kri .double "[D") (g_rw : n0 ≤ rw) (g_ri : n0 ≤ ri) (ne_rw_ri : rw ≠ ri) (hT : own_tol ma)
    {p : Program} {e : Env} {s : State} {m : MethodId} {args : Array Value} {below : List Frame} {meth : Method} {c : Code} {s₁ : State} {Lc : List Loc} (hx : p.tables.exec = Jvm.exec) (hby : c.code = prog_41_method_12_code) (hml : c.maxLocals = 10) (hZ : Z.Warmed39 s.vm) (hown : s.vm.findClass own_K1 = some m.cls) (hnm : meth.name = "refresh") (X0 : Stand p l e ({ frames := 1, cells := 3, slots := 6, locals := 40 } : Room) s m args below meth c s₁ Lc 3 6) (e0 : s₁.heap = h0) (N0 : Fr n0 Lc) :
    ∃ T : State, ∃ L : List Loc, Stand p l e ({ frames := 1, cells := 3, slots := 6, locals := 40 } : Room) s m args below meth c T L 3 6 ∧ Fr n0 L ∧ (Keep h0 T.heap [rw, ri]) ∧ (Arv Z T.heap rw kw (.array .double) (2 : Int32) [(.ref u1), (.ref u0)] .null) ∧ (Arv Z T.heap ri kri (.array .double) (2 : Int32) [(.ref j1), (.ref j0)] .null) ∧ ∀ t, Steps p.tables e below (T.setTop (mkF m 186 #[oR r0, oR rw, oI 0, oI 1, oI 2, oU, oU, oU, oU, oU] [])) t → Steps p.tables e below (s₁.setTop (mkF m 154 #[oR r0, oR rw, oI 0, oI 1, oI 2, oU, oU, oU, oU, oU] [])) t := by
  obtain ⟨cl101, Ar101, qk101, Sz101, Nz101, Hh101, Gg101⟩ := id V_rw
  have hin102 : ¬ ((1 : Int32) < 0 ∨ cl101.slots.size ≤ ((1 : Int32)).toNatClampNeg) := inb_of Sz101 ⟨by decide, by decide⟩
  have hat102 : cl101.slots[((1 : Int32)).toNatClampNeg]? = some (.ref u1) := Has.at Hh101 hin102 rfl
  obtain ⟨cl103, Ar103, qk103, Sz103, Nz103, Hh103, Gg103⟩ := id V_u1
  have hin104 : ¬ ((0 : Int32) < 0 ∨ cl103.slots.size ≤ ((0 : Int32)).toNatClampNeg) := inb_of Sz103 ⟨by decide, by decide⟩
  have hat104 : cl103.slots[((0 : Int32)).toNatClampNeg]? = some (.double ma) := Has.at Hh103 hin104 rfl
  obtain ⟨T105, X105, e105, st105⟩ := natS X0 hx hZ hown (own_w hw 75 rfl) (own_w hw 76 rfl) (own_w hw 77 rfl) (own_w hw 78 rfl) (by decide) e0 (W := 0) (fun q => Jvm.Free.Fl.Abs.absD_pays ma q (by decide) (by decide)) (g := (mkF m 159 #[oR r0, oR rw, oI 0, oI 1, oI 2, oU, oU, oU, oU, oU] [(.double ma)])) rfl (by rw [hml]; rfl) (argsL := [(.double ma)]) (rest := []) (lenOf pd1 rfl) rfl (by show 2 * 0 + _ ≤ _; exact Nat.le_of_eq rfl) (hb hby d6_159) (by decide) (by decide) ⟨rfl, hT.1⟩ rfl
  obtain ⟨_, T106, L106, X106, hQ106, st106⟩ := own_cS X105 hx hZ hw hown (W := 0) (rms01 l Z a0 hw [] rw kw u0 u1 h0 n0 Z0 V_rw O_rw g_rw E_u0 E_u1) (by decide) (by decide) (by decide) 80 rfl 81 rfl 7 rfl 82 rfl e105 (g := (mkF m 174 #[oR r0, oR rw, oI 0, oI 1, oI 2, oU, oU, oU, oU, oU] [(.int 1), (.int 0), (.ref rw)])) rfl (by rw [hml]; rfl) (argsL := [(.ref rw), (.int 0), (.int 1)]) (rest := []) (lenOf pd2 rfl) rfl (Nat.le_of_eq rfl) (hb hby d6_174) rfl (cN := 3) rfl (by decide) (sN := 6) rfl (by decide)
  obtain ⟨rfl, Nq106, P106_0, P106_1⟩ := hQ106
  have N106 := Fr.app N0 Nq106
  have ZZ107 : n0 ≤ T106.heap.size := Nat.le_trans Z0 P106_0.1
  have KK108 : Keep h0 T106.heap [rw, ri] := Keep.trans (Keep.refl h0 [rw, ri]) P106_0 (allS (Or.inl (List.mem_of_getElem? (i := 0) rfl)) all0)
  have nq109 : r0 ≠ rw := (ne_exa (E_r0.keep P106_0) (E_rw.keep P106_0) (by decide))
  have Fc110 := (F_inverse_r0.keep P106_0 (ninS nq109 nin0))
  obtain ⟨T111, X111, e111, st111⟩ := getF X106 hx hZ hown (host := "") (Or.inl (own_w hw 45 rfl)) Via.refl rfl Fc110 (g := (mkF m 178 #[oR r0, oR rw, oI 0, oI 1, oI 2, oU, oU, oU, oU, oU] [(.ref r0)])) rfl rfl (hb hby d6_178)
  have Fc112 := (V_ri.keep P106_0 (ninS (Ne.symm ne_rw_ri) nin0))
  obtain ⟨_, T113, L113, X113, hQ113, st113⟩ := own_cS X111 hx hZ hw hown (W := 0) (rms01 l Z a0 hw [] ri kri j0 j1 T106.heap n0 ZZ107 Fc112 O_ri g_ri (E_j0.keep P106_0) (E_j1.keep P106_0)) (by decide) (by decide) (by decide) 80 rfl 81 rfl 7 rfl 82 rfl e111 (g := (mkF m 183 #[oR r0, oR rw, oI 0, oI 1, oI 2, oU, oU, oU, oU, oU] [(.int 1), (.int 0), (.ref ri)])) rfl (by rw [hml]; rfl) (argsL := [(.ref ri), (.int 0), (.int 1)]) (rest := []) (lenOf pd2 rfl) rfl (Nat.le_of_eq rfl) (hb hby d6_183) rfl (cN := 3) rfl (by decide) (sN := 6) rfl (by decide)
  obtain ⟨rfl, Nq113, P113_0, P113_1⟩ := hQ113
  have N113 := Fr.app N106 Nq113
  have ZZ114 : n0 ≤ T113.heap.size := Nat.le_trans ZZ107 P113_0.1
  have KK115 : Keep h0 T113.heap [rw, ri] := Keep.trans KK108 P113_0 (allS (Or.inl (List.mem_of_getElem? (i := 1) rfl)) all0)
  refine ⟨_, _, X113, N113, KK115, (P106_1.keep P113_0 (ninS ne_rw_ri nin0)), P113_1, fun t kt => ?_⟩
  show own_S p e below s₁ m 154 #[oR r0, oR rw, oI 0, oI 1, oI 2, oU, oU, oU, oU, oU] [] _
  refine XS.aloadN X0.here hx rfl (hb hby d6_154) rfl rfl ?_
  refine XS.iloadN X0.here hx rfl (hb hby d6_155) rfl ?_
  show own_S p e below s₁ m 156 _ [(.int 1), (.ref rw)] _
  refine X0.aaload hx (j := (1 : Int32)) (v := (.ref u1)) (by rw [e0]; exact Ar101.1) (State.isArrayOf_alike hZ.alike Ar101.2.1) rfl Ar101.2.2 hin102 hat102 (g := (mkF m 156 #[oR r0, oR rw, oI 0, oI 1, oI 2, oU, oU, oU, oU, oU] [(.int 1), (.ref rw)])) rfl rfl (hb hby d6_156) _ ?_
  show own_S p e below s₁ m 157 _ [(.ref u1)] _
  refine XS.iloadN X0.here hx rfl (hb hby d6_157) rfl ?_
  show own_S p e below s₁ m 158 _ [(.int 0), (.ref u1)] _
  refine X0.daload hx (j := (0 : Int32)) (v := (.double ma)) (by rw [e0]; exact Ar103.1) (State.isArrayOf_alike hZ.alike Ar103.2.1) Ar103.2.2 hin104 hat104 (g := (mkF m 158 #[oR r0, oR rw, oI 0, oI 1, oI 2, oU, oU, oU, oU, oU] [(.int 0), (.ref u1)])) rfl rfl (hb hby d6_158) _ ?_
  show own_S p e below s₁ m 159 _ [(.double ma)] _
  refine st105 _ ?_
  show own_S p e below T105 m 162 _ [(.double (ma &&& 0x7fffffffffffffff))] _
  refine X105.ldc2DoubleC hx hown (mvT hZ (own_w hw 79 rfl)) (g := (mkF m 162 #[oR r0, oR rw, oI 0, oI 1, oI 2, oU, oU, oU, oU, oU] [(.double (ma &&& 0x7fffffffffffffff))])) rfl (hb hby d6_162) _ ?_
  show own_S p e below T105 m 165 #[oR r0, oR rw, oI 0, oI 1, oI 2, oU, oU, oU, oU, oU] [(.double 4472406533629990549), (.double (ma &&& 0x7fffffffffffffff))] _
  refine XS.dcmpS X105.here hx rfl (v := (cmpValue (FP.dcmp (ma &&& 0x7fffffffffffffff) (4472406533629990549 : UInt64)) .g)) (hb hby d6_165) rfl rfl ?_
  show own_S p e below T105 m 166 _ [(.int (cmpValue (FP.dcmp (ma &&& 0x7fffffffffffffff) (4472406533629990549 : UInt64)) .g))] _
  refine XS.ifYes X105.here hx rfl (pc0 := 166) (pc' := 171) rfl (hb hby d6_166) rfl ((if0 _ _).trans (flt (hT.2 : ¬ ((cmpValue (FP.dcmp (ma &&& 0x7fffffffffffffff) (4472406533629990549 : UInt64)) .g) < (0 : Int32)))).2.1) (by decide) (by decide) ?_
  refine XS.aloadN X105.here hx rfl (hb hby d6_171) rfl rfl ?_
  refine XS.iloadN X105.here hx rfl (hb hby d6_172) rfl ?_
  refine XS.iloadN X105.here hx rfl (hb hby d6_173) rfl ?_
  show own_S p e below T105 m 174 _ [(.int 1), (.int 0), (.ref rw)] _
  refine st106.trans ?_
  show own_S p e below T106 m 177 _ [] _
  refine XS.aloadN X106.here hx rfl (hb hby d6_177) rfl rfl ?_
  show own_S p e below T106 m 178 #[oR r0, oR rw, oI 0, oI 1, oI 2, oU, oU, oU, oU, oU] [(.ref r0)] _
  refine st111 _ ?_
  show own_S p e below T111 m 181 _ [(.ref ri)] _
  refine XS.iloadN X111.here hx rfl (hb hby d6_181) rfl ?_
  refine XS.iloadN X111.here hx rfl (hb hby d6_182) rfl ?_
  show own_S p e below T111 m 183 _ [(.int 1), (.int 0), (.ref ri)] _
  refine st113.trans ?_
  exact kt
theorem d6_186 : decode k6 186 = .ok (.aload_n 1, 1) := by decide +kernel
theorem d6_187 : decode k6 187 = .ok (.iload_n 2, 1) := by decide +kernel
theorem d6_188 : decode k6 188 = .ok (.aaload, 1) := by decide +kernel
theorem d6_189 : decode k6 189 = .ok (.iload_n 2, 1) := by decide +kernel
theorem d6_190 : decode k6 190 = .ok (.daload, 1) := by decide +kernel
theorem d6_191 : decode k6 191 = .ok (.dstore 4, 2) := by decide +kernel
theorem d6_193 : decode k6 193 = .ok (.iconst 0, 1) := by decide +kernel
theorem d6_194 : decode k6 194 = .ok (.istore 6, 2) := by decide +kernel
theorem d6_196 : decode k6 196 = .ok (.iload 6, 2) := by decide +kernel
theorem d6_198 : decode k6 198 = .ok (.aload_n 0, 1) := by decide +kernel
theorem d6_199 : decode k6 199 = .ok (.getfield 31, 3) := by decide +kernel
theorem d6_202 : decode k6 202 = .ok (.if_icmp .ge 34, 3) := by decide +kernel
theorem d6_205 : decode k6 205 = .ok (.aload_n 1, 1) := by decide +kernel
theorem d6_206 : decode k6 206 = .ok (.iload_n 2, 1) := by decide +kernel
theorem d6_207 : decode k6 207 = .ok (.aaload, 1) := by decide +kernel
theorem d6_208 : decode k6 208 = .ok (.iload 6, 2) := by decide +kernel
theorem d6_210 : decode k6 210 = .ok (.dup2, 1) := by decide +kernel
theorem d6_211 : decode k6 211 = .ok (.daload, 1) := by decide +kernel
theorem d6_212 : decode k6 212 = .ok (.dload 4, 2) := by decide +kernel
theorem d6_214 : decode k6 214 = .ok (.ddiv, 1) := by decide +kernel
theorem d6_215 : decode k6 215 = .ok (.dastore, 1) := by decide +kernel
theorem d6_216 : decode k6 216 = .ok (.aload_n 0, 1) := by decide +kernel
theorem d6_217 : decode k6 217 = .ok (.getfield 46, 3) := by decide +kernel
theorem d6_220 : decode k6 220 = .ok (.iload_n 2, 1) := by decide +kernel
theorem d6_221 : decode k6 221 = .ok (.aaload, 1) := by decide +kernel
theorem d6_222 : decode k6 222 = .ok (.iload 6, 2) := by decide +kernel
theorem d6_224 : decode k6 224 = .ok (.dup2, 1) := by decide +kernel
theorem d6_225 : decode k6 225 = .ok (.daload, 1) := by decide +kernel
theorem d6_226 : decode k6 226 = .ok (.dload 4, 2) := by decide +kernel
theorem d6_228 : decode k6 228 = .ok (.ddiv, 1) := by decide +kernel
theorem d6_229 : decode k6 229 = .ok (.dastore, 1) := by decide +kernel
theorem d6_230 : decode k6 230 = .ok (.iinc 6 1, 3) := by decide +kernel
theorem d6_233 : decode k6 233 = .ok (.goto (-37), 3) := by decide +kernel
theorem d6_236 : decode k6 236 = .ok (.iconst 0, 1) := by decide +kernel
theorem d6_237 : decode k6 237 = .ok (.istore 6, 2) := by decide +kernel
theorem d6_239 : decode k6 239 = .ok (.iload 6, 2) := by decide +kernel
theorem d6_241 : decode k6 241 = .ok (.aload_n 0, 1) := by decide +kernel
theorem d6_242 : decode k6 242 = .ok (.getfield 31, 3) := by decide +kernel
theorem d6_245 : decode k6 245 = .ok (.if_icmp .ge 92, 3) := by decide +kernel
theorem d6_248 : decode k6 248 = .ok (.aload_n 1, 1) := by decide +kernel
theorem d6_249 : decode k6 249 = .ok (.iload 6, 2) := by decide +kernel
theorem d6_251 : decode k6 251 = .ok (.aaload, 1) := by decide +kernel
theorem d6_252 : decode k6 252 = .ok (.iload_n 2, 1) := by decide +kernel
theorem d6_253 : decode k6 253 = .ok (.daload, 1) := by decide +kernel
theorem d6_254 : decode k6 254 = .ok (.dstore 7, 2) := by decide +kernel
theorem d6_256 : decode k6 256 = .ok (.iload 6, 2) := by decide +kernel
theorem d6_258 : decode k6 258 = .ok (.iload_n 2, 1) := by decide +kernel
theorem d6_259 : decode k6 259 = .ok (.if_icmp .eq 72, 3) := by decide +kernel
theorem d6_262 : decode k6 262 = .ok (.dload 7, 2) := by decide +kernel
theorem d6_264 : decode k6 264 = .ok (.dconst 0, 1) := by decide +kernel
theorem d6_265 : decode k6 265 = .ok (.dcmp .l, 1) := by decide +kernel
theorem d6_266 : decode k6 266 = .ok (.ifCond .eq 65, 3) := by decide +kernel
theorem d6_269 : decode k6 269 = .ok (.iconst 0, 1) := by decide +kernel
theorem d6_270 : decode k6 270 = .ok (.istore 9, 2) := by decide +kernel
theorem d6_272 : decode k6 272 = .ok (.iload 9, 2) := by decide +kernel
theorem d6_274 : decode k6 274 = .ok (.aload_n 0, 1) := by decide +kernel
theorem d6_275 : decode k6 275 = .ok (.getfield 31, 3) := by decide +kernel
theorem d6_278 : decode k6 278 = .ok (.if_icmp .ge 53, 3) := by decide +kernel
theorem d6_281 : decode k6 281 = .ok (.aload_n 1, 1) := by decide +kernel
theorem d6_282 : decode k6 282 = .ok (.iload 6, 2) := by decide +kernel
theorem d6_284 : decode k6 284 = .ok (.aaload, 1) := by decide +kernel
theorem d6_285 : decode k6 285 = .ok (.iload 9, 2) := by decide +kernel
theorem d6_287 : decode k6 287 = .ok (.dup2, 1) := by decide +kernel
theorem d6_288 : decode k6 288 = .ok (.daload, 1) := by decide +kernel
theorem d6_289 : decode k6 289 = .ok (.dload 7, 2) := by decide +kernel
theorem d6_291 : decode k6 291 = .ok (.aload_n 1, 1) := by decide +kernel
theorem d6_292 : decode k6 292 = .ok (.iload_n 2, 1) := by decide +kernel
theorem d6_293 : decode k6 293 = .ok (.aaload, 1) := by decide +kernel
theorem d6_294 : decode k6 294 = .ok (.iload 9, 2) := by decide +kernel
theorem d6_296 : decode k6 296 = .ok (.daload, 1) := by decide +kernel
theorem d6_297 : decode k6 297 = .ok (.dmul, 1) := by decide +kernel
theorem d6_298 : decode k6 298 = .ok (.dsub, 1) := by decide +kernel
theorem d6_299 : decode k6 299 = .ok (.dastore, 1) := by decide +kernel
theorem d6_300 : decode k6 300 = .ok (.aload_n 0, 1) := by decide +kernel
theorem d6_301 : decode k6 301 = .ok (.getfield 46, 3) := by decide +kernel
theorem d6_304 : decode k6 304 = .ok (.iload 6, 2) := by decide +kernel
theorem d6_306 : decode k6 306 = .ok (.aaload, 1) := by decide +kernel
theorem d6_307 : decode k6 307 = .ok (.iload 9, 2) := by decide +kernel
theorem d6_309 : decode k6 309 = .ok (.dup2, 1) := by decide +kernel
theorem d6_310 : decode k6 310 = .ok (.daload, 1) := by decide +kernel
theorem d6_311 : decode k6 311 = .ok (.dload 7, 2) := by decide +kernel
theorem d6_313 : decode k6 313 = .ok (.aload_n 0, 1) := by decide +kernel
theorem d6_314 : decode k6 314 = .ok (.getfield 46, 3) := by decide +kernel
theorem d6_317 : decode k6 317 = .ok (.iload_n 2, 1) := by decide +kernel
theorem d6_318 : decode k6 318 = .ok (.aaload, 1) := by decide +kernel
theorem d6_319 : decode k6 319 = .ok (.iload 9, 2) := by decide +kernel
theorem d6_321 : decode k6 321 = .ok (.daload, 1) := by decide +kernel
theorem d6_322 : decode k6 322 = .ok (.dmul, 1) := by decide +kernel
theorem d6_323 : decode k6 323 = .ok (.dsub, 1) := by decide +kernel
theorem d6_324 : decode k6 324 = .ok (.dastore, 1) := by decide +kernel
theorem d6_325 : decode k6 325 = .ok (.iinc 9 1, 3) := by decide +kernel
theorem d6_328 : decode k6 328 = .ok (.goto (-56), 3) := by decide +kernel
theorem d6_331 : decode k6 331 = .ok (.iinc 6 1, 3) := by decide +kernel
theorem d6_334 : decode k6 334 = .ok (.goto (-95), 3) := by decide +kernel
theorem d6_337 : decode k6 337 = .ok (.iinc 2 1, 3) := by decide +kernel
theorem d6_340 : decode k6 340 = .ok (.goto (-240), 3) := by decide +kernel
set_option maxRecDepth 65536 in
set_option maxHeartbeats 40000000 in
theorem own_E0 (l : Launch) (Z : State) (a0 : Array Value) (hw : own_HW Z a0) (r0 : Addr) (rw : Addr) (ri : Addr) (u0 : Addr) (u1 : Addr) (j0 : Addr) (j1 : Addr) (kw : ClassId) (kri : ClassId) (ku : ClassId) (ki : ClassId) (kp : Int32) (ma : UInt64) (mb : UInt64) (mc : UInt64) (md : UInt64) (x0 : UInt64) (x1 : UInt64) (y0 : UInt64) (y1 : UInt64) (h0 : Heap) (n0 : Nat) (Z0 : n0 ≤ h0.size) (F_rows_r0 : Fld Z h0 r0 own_K1 "rows" "I" (.int 2)) (F_inverse_r0 : Fld Z h0 r0 own_K1 "inverse" "[[D" (.ref ri)) (V_rw : Arv Z h0 rw kw (.array .double) (2 : Int32) [(.ref u0), (.ref u1)] .null) (V_ri : Arv Z h0 ri kri (.array .double) (2 : Int32) [(.ref j0), (.ref j1)] .null) (V_u0 : Arv Z h0 u0 ku .double (2 : Int32) [(.double ma), (.double mb)] (.double 0)) (V_u1 : Arv Z h0 u1 ku .double (2 : Int32) [(.double mc), (.double md)] (.double 0)) (V_j0 : Arv Z h0 j0 ki .double (2 : Int32) [(.double x0), (.double x1)] (.double 0)) (V_j1 : Arv Z h0 j1 ki .double (2 : Int32) [(.double y0), (.double y1)] (.double 0)) (E_r0 : Exa Z h0 r0 own_K1) (E_rw : Exa Z h0 rw "[[D") (E_ri : Exa Z h0 ri "[[D") (E_u0 : Exa Z h0 u0 "[D") (E_u1 : Exa Z h0 u1 "[D") (E_j0 : Exa Z h0 j0 "[D") (E_j1 : Exa Z h0 j1 "[D") (g_u0 : n0 ≤ u0) (g_u1 : n0 ≤ u1) (g_j0 : n0 ≤ j0) (g_j1 : n0 ≤ j1) (ne_u0_u1 : u0 ≠ u1) (ne_j0_j1 : j0 ≠ j1) (ne_u0_j0 : u0 ≠ j0) (ne_u0_j1 : u0 ≠ j1) (ne_u1_j0 : u1 ≠ j0) (ne_u1_j1 : u1 ≠ j1) (hK : own_okA ma mb mc md x0 x1 y0 y1)
    {p : Program} {e : Env} {s : State} {m : MethodId} {args : Array Value} {below : List Frame} {meth : Method} {c : Code} {s₁ : State} {Lc : List Loc} (hx : p.tables.exec = Jvm.exec) (hby : c.code = prog_41_method_12_code) (hml : c.maxLocals = 10) (hZ : Z.Warmed39 s.vm) (hown : s.vm.findClass own_K1 = some m.cls) (hnm : meth.name = "refresh") (X0 : Stand p l e ({ frames := 1, cells := 3, slots := 6, locals := 40 } : Room) s m args below meth c s₁ Lc 3 6) (e0 : s₁.heap = h0) (N0 : Fr n0 Lc) :
    ∃ a1 : UInt64, ∃ b1 : UInt64, ∃ c1 : UInt64, ∃ d1 : UInt64, ∃ x01 : UInt64, ∃ x11 : UInt64, ∃ y01 : UInt64, ∃ y11 : UInt64, ∃ s9' : Slot, ∃ T : State, ∃ L : List Loc, Stand p l e ({ frames := 1, cells := 3, slots := 6, locals := 40 } : Room) s m args below meth c T L 3 6 ∧ Fr n0 L ∧ (Keep h0 T.heap [u0, u1, j0, j1]) ∧ (Arv Z T.heap u0 ku .double (2 : Int32) [(.double a1), (.double b1)] (.double 0)) ∧ (Arv Z T.heap u1 ku .double (2 : Int32) [(.double c1), (.double d1)] (.double 0)) ∧ (Arv Z T.heap j0 ki .double (2 : Int32) [(.double x01), (.double x11)] (.double 0)) ∧ (Arv Z T.heap j1 ki .double (2 : Int32) [(.double y01), (.double y11)] (.double 0)) ∧ (own_rA ma mb mc md x0 x1 y0 y1 a1 b1 c1 d1 x01 x11 y01 y11) ∧ (One s9') ∧ ∀ t, Steps p.tables e below (T.setTop (mkF m 100 #[oR r0, oR rw, oI 1, oI kp, oD ma, oV, oI 2, oD mc, oV, s9'] [])) t → Steps p.tables e below (s₁.setTop (mkF m 186 #[oR r0, oR rw, oI 0, oI kp, oI 2, oU, oU, oU, oU, oU] [])) t := by
  obtain ⟨cl101, Ar101, qk101, Sz101, Nz101, Hh101, Gg101⟩ := id V_rw
  have hin102 : ¬ ((0 : Int32) < 0 ∨ cl101.slots.size ≤ ((0 : Int32)).toNatClampNeg) := inb_of Sz101 ⟨by decide, by decide⟩
  have hat102 : cl101.slots[((0 : Int32)).toNatClampNeg]? = some (.ref u0) := Has.at Hh101 hin102 rfl
  obtain ⟨cl103, Ar103, qk103, Sz103, Nz103, Hh103, Gg103⟩ := id V_u0
  have hin104 : ¬ ((0 : Int32) < 0 ∨ cl103.slots.size ≤ ((0 : Int32)).toNatClampNeg) := inb_of Sz103 ⟨by decide, by decide⟩
  have hat104 : cl103.slots[((0 : Int32)).toNatClampNeg]? = some (.double ma) := Has.at Hh103 hin104 rfl
  obtain ⟨T105, X105, e105, st105⟩ := getF X0 hx hZ hown (host := "") (Or.inl (own_w hw 30 rfl)) Via.refl e0 F_rows_r0 (g := (mkF m 199 #[oR r0, oR rw, oI 0, oI kp, oD ma, oV, oI 0, oU, oU, oU] [(.ref r0), (.int 0)])) rfl rfl (hb hby d6_199)
  have hin106 : ¬ ((0 : Int32) < 0 ∨ cl101.slots.size ≤ ((0 : Int32)).toNatClampNeg) := inb_of Sz101 ⟨by decide, by decide⟩
  have hat106 : cl101.slots[((0 : Int32)).toNatClampNeg]? = some (.ref u0) := Has.at Hh101 hin106 rfl
  have hin107 : ¬ ((0 : Int32) < 0 ∨ cl103.slots.size ≤ ((0 : Int32)).toNatClampNeg) := inb_of Sz103 ⟨by decide, by decide⟩
  have hat107 : cl103.slots[((0 : Int32)).toNatClampNeg]? = some (.double ma) := Has.at Hh103 hin107 rfl
  have hin108 : ¬ ((0 : Int32) < 0 ∨ cl103.slots.size ≤ ((0 : Int32)).toNatClampNeg) := inb_of Sz103 ⟨by decide, by decide⟩
  obtain ⟨T109, h109, X109, e109, W109, st109⟩ := stD X105 hx hZ e105 Ar103 (j := (0 : Int32)) hin108 (g := (mkF m 215 #[oR r0, oR rw, oI 0, oI kp, oD ma, oV, oI 0, oU, oU, oU] [(.double (FP.ddiv ma ma)), (.int 0), (.ref u0)])) rfl rfl (hb hby d6_215)
  have Va109 := Arv.set Ar103 qk103 Sz103 Nz103 Hh103 Gg103 rfl W109 0 rfl (Nat.le_of_ble_eq_true rfl)
  have N109 := Fr.snoc X109 N0 g_u0
  have ZZ110 : n0 ≤ h109.size := Nat.le_trans Z0 (Nat.le_of_eq W109.size.symm)
  have KK111 : Keep h0 h109 [u0, u1, j0, j1] := (Keep.refl h0 [u0, u1, j0, j1]).wr W109 (Or.inl (List.mem_of_getElem? (i := 0) rfl))
  have nq112 : r0 ≠ u0 := (ne_exa (E_r0.wr W109) (E_u0.wr W109) (by decide))
  have Fc113 := (F_inverse_r0.other W109 (Or.inl nq112))
  obtain ⟨T114, X114, e114, st114⟩ := getF X109 hx hZ hown (host := "") (Or.inl (own_w hw 45 rfl)) Via.refl e109 Fc113 (g := (mkF m 217 #[oR r0, oR rw, oI 0, oI kp, oD ma, oV, oI 0, oU, oU, oU] [(.ref r0)])) rfl rfl (hb hby d6_217)
  have nq115 : ri ≠ u0 := (ne_exa (E_ri.wr W109) (E_u0.wr W109) (by decide))
  obtain ⟨cl116, Ar116, qk116, Sz116, Nz116, Hh116, Gg116⟩ := id (V_ri.other W109 nq115)
  have hin117 : ¬ ((0 : Int32) < 0 ∨ cl116.slots.size ≤ ((0 : Int32)).toNatClampNeg) := inb_of Sz116 ⟨by decide, by decide⟩
  have hat117 : cl116.slots[((0 : Int32)).toNatClampNeg]? = some (.ref j0) := Has.at Hh116 hin117 rfl
  have Fc118 := (V_j0.other W109 (Ne.symm ne_u0_j0))
  obtain ⟨cl119, Ar119, qk119, Sz119, Nz119, Hh119, Gg119⟩ := id Fc118
  have hin120 : ¬ ((0 : Int32) < 0 ∨ cl119.slots.size ≤ ((0 : Int32)).toNatClampNeg) := inb_of Sz119 ⟨by decide, by decide⟩
  have hat120 : cl119.slots[((0 : Int32)).toNatClampNeg]? = some (.double x0) := Has.at Hh119 hin120 rfl
  have hin121 : ¬ ((0 : Int32) < 0 ∨ cl119.slots.size ≤ ((0 : Int32)).toNatClampNeg) := inb_of Sz119 ⟨by decide, by decide⟩
  obtain ⟨T122, h122, X122, e122, W122, st122⟩ := stD X114 hx hZ e114 Ar119 (j := (0 : Int32)) hin121 (g := (mkF m 229 #[oR r0, oR rw, oI 0, oI kp, oD ma, oV, oI 0, oU, oU, oU] [(.double (FP.ddiv x0 ma)), (.int 0), (.ref j0)])) rfl rfl (hb hby d6_229)
  have Va122 := Arv.set Ar119 qk119 Sz119 Nz119 Hh119 Gg119 rfl W122 0 rfl (Nat.le_of_ble_eq_true rfl)
  have N122 := Fr.snoc X122 N109 g_j0
  have ZZ123 : n0 ≤ h122.size := Nat.le_trans ZZ110 (Nat.le_of_eq W122.size.symm)
  have KK124 : Keep h0 h122 [u0, u1, j0, j1] := KK111.wr W122 (Or.inl (List.mem_of_getElem? (i := 2) rfl))
  have Fc125 := (E_r0.keep KK124)
  have nq126 : r0 ≠ u1 := (ne_exa Fc125 ((E_u1.wr W109).wr W122) (by decide))
  have nq127 : r0 ≠ j0 := (ne_exa Fc125 ((E_j0.wr W109).wr W122) (by decide))
  have nq128 : r0 ≠ j1 := (ne_exa Fc125 ((E_j1.wr W109).wr W122) (by decide))
  have Fc129 := (F_rows_r0.keep KK124 (ninS nq112 (ninS nq126 (ninS nq127 (ninS nq128 nin0)))))
  obtain ⟨T130, X130, e130, st130⟩ := getF X122 hx hZ hown (host := "") (Or.inl (own_w hw 30 rfl)) Via.refl e122 Fc129 (g := (mkF m 199 #[oR r0, oR rw, oI 0, oI kp, oD ma, oV, oI 1, oU, oU, oU] [(.ref r0), (.int 1)])) rfl rfl (hb hby d6_199)
  have Fc131 := (E_rw.keep KK124)
  have nq132 : rw ≠ u0 := (ne_exa Fc131 ((E_u0.wr W109).wr W122) (by decide))
  have nq133 : rw ≠ u1 := (ne_exa Fc131 ((E_u1.wr W109).wr W122) (by decide))
  have nq134 : rw ≠ j0 := (ne_exa Fc131 ((E_j0.wr W109).wr W122) (by decide))
  have nq135 : rw ≠ j1 := (ne_exa Fc131 ((E_j1.wr W109).wr W122) (by decide))
  have Fc136 := (V_rw.keep KK124 (ninS nq132 (ninS nq133 (ninS nq134 (ninS nq135 nin0)))))
  obtain ⟨cl137, Ar137, qk137, Sz137, Nz137, Hh137, Gg137⟩ := id Fc136
  have hin138 : ¬ ((0 : Int32) < 0 ∨ cl137.slots.size ≤ ((0 : Int32)).toNatClampNeg) := inb_of Sz137 ⟨by decide, by decide⟩
  have hat138 : cl137.slots[((0 : Int32)).toNatClampNeg]? = some (.ref u0) := Has.at Hh137 hin138 rfl
  have Fc139 := (Va109.other W122 ne_u0_j0)
  obtain ⟨cl140, Ar140, qk140, Sz140, Nz140, Hh140, Gg140⟩ := id Fc139
  have hin141 : ¬ ((1 : Int32) < 0 ∨ cl140.slots.size ≤ ((1 : Int32)).toNatClampNeg) := inb_of Sz140 ⟨by decide, by decide⟩
  have hat141 : cl140.slots[((1 : Int32)).toNatClampNeg]? = some (.double mb) := Has.at Hh140 hin141 rfl
  have hin142 : ¬ ((1 : Int32) < 0 ∨ cl140.slots.size ≤ ((1 : Int32)).toNatClampNeg) := inb_of Sz140 ⟨by decide, by decide⟩
  obtain ⟨T143, h143, X143, e143, W143, st143⟩ := stD X130 hx hZ e130 Ar140 (j := (1 : Int32)) hin142 (g := (mkF m 215 #[oR r0, oR rw, oI 0, oI kp, oD ma, oV, oI 1, oU, oU, oU] [(.double (FP.ddiv mb ma)), (.int 1), (.ref u0)])) rfl rfl (hb hby d6_215)
  have Va143 := Arv.set Ar140 qk140 Sz140 Nz140 Hh140 Gg140 rfl W143 1 rfl (Nat.le_of_ble_eq_true rfl)
  have N143 := Fr.snoc X143 N122 g_u0
  have ZZ144 : n0 ≤ h143.size := Nat.le_trans ZZ123 (Nat.le_of_eq W143.size.symm)
  have KK145 : Keep h0 h143 [u0, u1, j0, j1] := KK124.wr W143 (Or.inl (List.mem_of_getElem? (i := 0) rfl))
  have Fc146 := ((Fc113.other W122 (Or.inl nq127)).other W143 (Or.inl nq112))
  obtain ⟨T147, X147, e147, st147⟩ := getF X143 hx hZ hown (host := "") (Or.inl (own_w hw 45 rfl)) Via.refl e143 Fc146 (g := (mkF m 217 #[oR r0, oR rw, oI 0, oI kp, oD ma, oV, oI 1, oU, oU, oU] [(.ref r0)])) rfl rfl (hb hby d6_217)
  have Fc148 := (E_ri.keep KK145)
  have Fc149 := (((E_u1.wr W109).wr W122).wr W143)
  have nq150 : ri ≠ u1 := (ne_exa Fc148 Fc149 (by decide))
  have Fc151 := (((E_j0.wr W109).wr W122).wr W143)
  have nq152 : ri ≠ j0 := (ne_exa Fc148 Fc151 (by decide))
  have Fc153 := (((E_j1.wr W109).wr W122).wr W143)
  have nq154 : ri ≠ j1 := (ne_exa Fc148 Fc153 (by decide))
  have Fc155 := (V_ri.keep KK145 (ninS nq115 (ninS nq150 (ninS nq152 (ninS nq154 nin0)))))
  obtain ⟨cl156, Ar156, qk156, Sz156, Nz156, Hh156, Gg156⟩ := id Fc155
  have hin157 : ¬ ((0 : Int32) < 0 ∨ cl156.slots.size ≤ ((0 : Int32)).toNatClampNeg) := inb_of Sz156 ⟨by decide, by decide⟩
  have hat157 : cl156.slots[((0 : Int32)).toNatClampNeg]? = some (.ref j0) := Has.at Hh156 hin157 rfl
  have Fc158 := (Va122.other W143 (Ne.symm ne_u0_j0))
  obtain ⟨cl159, Ar159, qk159, Sz159, Nz159, Hh159, Gg159⟩ := id Fc158
  have hin160 : ¬ ((1 : Int32) < 0 ∨ cl159.slots.size ≤ ((1 : Int32)).toNatClampNeg) := inb_of Sz159 ⟨by decide, by decide⟩
  have hat160 : cl159.slots[((1 : Int32)).toNatClampNeg]? = some (.double x1) := Has.at Hh159 hin160 rfl
  have hin161 : ¬ ((1 : Int32) < 0 ∨ cl159.slots.size ≤ ((1 : Int32)).toNatClampNeg) := inb_of Sz159 ⟨by decide, by decide⟩
  obtain ⟨T162, h162, X162, e162, W162, st162⟩ := stD X147 hx hZ e147 Ar159 (j := (1 : Int32)) hin161 (g := (mkF m 229 #[oR r0, oR rw, oI 0, oI kp, oD ma, oV, oI 1, oU, oU, oU] [(.double (FP.ddiv x1 ma)), (.int 1), (.ref j0)])) rfl rfl (hb hby d6_229)
  have Va162 := Arv.set Ar159 qk159 Sz159 Nz159 Hh159 Gg159 rfl W162 1 rfl (Nat.le_of_ble_eq_true rfl)
  have N162 := Fr.snoc X162 N143 g_j0
  have ZZ163 : n0 ≤ h162.size := Nat.le_trans ZZ144 (Nat.le_of_eq W162.size.symm)
  have KK164 : Keep h0 h162 [u0, u1, j0, j1] := KK145.wr W162 (Or.inl (List.mem_of_getElem? (i := 2) rfl))
  have Fc165 := (F_rows_r0.keep KK164 (ninS nq112 (ninS nq126 (ninS nq127 (ninS nq128 nin0)))))
  obtain ⟨T166, X166, e166, st166⟩ := getF X162 hx hZ hown (host := "") (Or.inl (own_w hw 30 rfl)) Via.refl e162 Fc165 (g := (mkF m 199 #[oR r0, oR rw, oI 0, oI kp, oD ma, oV, oI 2, oU, oU, oU] [(.ref r0), (.int 2)])) rfl rfl (hb hby d6_199)
  obtain ⟨T167, X167, e167, st167⟩ := getF X166 hx hZ hown (host := "") (Or.inl (own_w hw 30 rfl)) Via.refl e166 Fc165 (g := (mkF m 242 #[oR r0, oR rw, oI 0, oI kp, oD ma, oV, oI 0, oU, oU, oU] [(.ref r0), (.int 0)])) rfl rfl (hb hby d6_242)
  have Fc168 := (V_rw.keep KK164 (ninS nq132 (ninS nq133 (ninS nq134 (ninS nq135 nin0)))))
  obtain ⟨cl169, Ar169, qk169, Sz169, Nz169, Hh169, Gg169⟩ := id Fc168
  have hin170 : ¬ ((0 : Int32) < 0 ∨ cl169.slots.size ≤ ((0 : Int32)).toNatClampNeg) := inb_of Sz169 ⟨by decide, by decide⟩
  have hat170 : cl169.slots[((0 : Int32)).toNatClampNeg]? = some (.ref u0) := Has.at Hh169 hin170 rfl
  have Fc171 := (Va143.other W162 ne_u0_j0)
  obtain ⟨cl172, Ar172, qk172, Sz172, Nz172, Hh172, Gg172⟩ := id Fc171
  have hin173 : ¬ ((0 : Int32) < 0 ∨ cl172.slots.size ≤ ((0 : Int32)).toNatClampNeg) := inb_of Sz172 ⟨by decide, by decide⟩
  have hat173 : cl172.slots[((0 : Int32)).toNatClampNeg]? = some (.double (FP.ddiv ma ma)) := Has.at Hh172 hin173 rfl
  obtain ⟨T174, X174, e174, st174⟩ := getF X167 hx hZ hown (host := "") (Or.inl (own_w hw 30 rfl)) Via.refl e167 Fc165 (g := (mkF m 242 #[oR r0, oR rw, oI 0, oI kp, oD ma, oV, oI 1, oD (FP.ddiv ma ma), oV, oU] [(.ref r0), (.int 1)])) rfl rfl (hb hby d6_242)
  have hin175 : ¬ ((1 : Int32) < 0 ∨ cl169.slots.size ≤ ((1 : Int32)).toNatClampNeg) := inb_of Sz169 ⟨by decide, by decide⟩
  have hat175 : cl169.slots[((1 : Int32)).toNatClampNeg]? = some (.ref u1) := Has.at Hh169 hin175 rfl
  have Fc176 := ((((V_u1.other W109 (Ne.symm ne_u0_u1)).other W122 ne_u1_j0).other W143 (Ne.symm ne_u0_u1)).other W162 ne_u1_j0)
  obtain ⟨cl177, Ar177, qk177, Sz177, Nz177, Hh177, Gg177⟩ := id Fc176
  have hin178 : ¬ ((0 : Int32) < 0 ∨ cl177.slots.size ≤ ((0 : Int32)).toNatClampNeg) := inb_of Sz177 ⟨by decide, by decide⟩
  have hat178 : cl177.slots[((0 : Int32)).toNatClampNeg]? = some (.double mc) := Has.at Hh177 hin178 rfl
  have pre179 : ∀ t, Steps p.tables e below (T174.setTop (mkF m 266 #[oR r0, oR rw, oI 0, oI kp, oD ma, oV, oI 1, oD mc, oV, oU] [(.int (cmpValue (FP.dcmp mc (0 : UInt64)) .l))])) t → Steps p.tables e below (s₁.setTop (mkF m 186 #[oR r0, oR rw, oI 0, oI kp, oI 2, oU, oU, oU, oU, oU] [])) t := by
    intro t kt
    show own_S p e below s₁ m 186 #[oR r0, oR rw, oI 0, oI kp, oI 2, oU, oU, oU, oU, oU] [] _
    refine XS.aloadN X0.here hx rfl (hb hby d6_186) rfl rfl ?_
    refine XS.iloadN X0.here hx rfl (hb hby d6_187) rfl ?_
    show own_S p e below s₁ m 188 _ [(.int 0), (.ref rw)] _
    refine X0.aaload hx (j := (0 : Int32)) (v := (.ref u0)) (by rw [e0]; exact Ar101.1) (State.isArrayOf_alike hZ.alike Ar101.2.1) rfl Ar101.2.2 hin102 hat102 (g := (mkF m 188 #[oR r0, oR rw, oI 0, oI kp, oI 2, oU, oU, oU, oU, oU] [(.int 0), (.ref rw)])) rfl rfl (hb hby d6_188) _ ?_
    show own_S p e below s₁ m 189 _ [(.ref u0)] _
    refine XS.iloadN X0.here hx rfl (hb hby d6_189) rfl ?_
    show own_S p e below s₁ m 190 _ [(.int 0), (.ref u0)] _
    refine X0.daload hx (j := (0 : Int32)) (v := (.double ma)) (by rw [e0]; exact Ar103.1) (State.isArrayOf_alike hZ.alike Ar103.2.1) Ar103.2.2 hin104 hat104 (g := (mkF m 190 #[oR r0, oR rw, oI 0, oI kp, oI 2, oU, oU, oU, oU, oU] [(.int 0), (.ref u0)])) rfl rfl (hb hby d6_190) _ ?_
    show own_S p e below s₁ m 191 _ [(.double ma)] _
    refine XS.dstore X0.here hx rfl (hb hby d6_191) rfl (l' := #[oR r0, oR rw, oI 0, oI kp, oD ma, oV, oU, oU, oU, oU]) rfl ?_
    refine XS.iconst X0.here hx rfl (hb hby d6_193) ?_
    refine XS.istore X0.here hx rfl (hb hby d6_194) rfl (l' := #[oR r0, oR rw, oI 0, oI kp, oD ma, oV, oI 0, oU, oU, oU]) rfl ?_
    refine XS.iload X0.here hx rfl (hb hby d6_196) rfl ?_
    show own_S p e below s₁ m 198 _ [(.int 0)] _
    refine XS.aloadN X0.here hx rfl (hb hby d6_198) rfl rfl ?_
    show own_S p e below s₁ m 199 _ [(.ref r0), (.int 0)] _
    refine st105 _ ?_
    show own_S p e below T105 m 202 _ [(.int 2), (.int 0)] _
    refine XS.icmpNo X105.here hx rfl (hb hby d6_202) rfl (tlt (by decide : (0 : Int32) < (2 : Int32))).2.1 ?_
    refine XS.aloadN X105.here hx rfl (hb hby d6_205) rfl rfl ?_
    refine XS.iloadN X105.here hx rfl (hb hby d6_206) rfl ?_
    show own_S p e below T105 m 207 _ [(.int 0), (.ref rw)] _
    refine X105.aaload hx (j := (0 : Int32)) (v := (.ref u0)) (by rw [e105]; exact Ar101.1) (State.isArrayOf_alike hZ.alike Ar101.2.1) rfl Ar101.2.2 hin106 hat106 (g := (mkF m 207 #[oR r0, oR rw, oI 0, oI kp, oD ma, oV, oI 0, oU, oU, oU] [(.int 0), (.ref rw)])) rfl rfl (hb hby d6_207) _ ?_
    show own_S p e below T105 m 208 #[oR r0, oR rw, oI 0, oI kp, oD ma, oV, oI 0, oU, oU, oU] [(.ref u0)] _
    refine XS.iload X105.here hx rfl (hb hby d6_208) rfl ?_
    show own_S p e below T105 m 210 _ [(.int 0), (.ref u0)] _
    jvm_step X105.here [X105.here.top, hx, (hb hby d6_210), Value.category]
    show own_S p e below T105 m 211 #[oR r0, oR rw, oI 0, oI kp, oD ma, oV, oI 0, oU, oU, oU] [(.int 0), (.ref u0), (.int 0), (.ref u0)] _
    refine X105.daload hx (j := (0 : Int32)) (v := (.double ma)) (by rw [e105]; exact Ar103.1) (State.isArrayOf_alike hZ.alike Ar103.2.1) Ar103.2.2 hin107 hat107 (g := (mkF m 211 #[oR r0, oR rw, oI 0, oI kp, oD ma, oV, oI 0, oU, oU, oU] [(.int 0), (.ref u0), (.int 0), (.ref u0)])) rfl rfl (hb hby d6_211) _ ?_
    show own_S p e below T105 m 212 _ [(.double ma), (.int 0), (.ref u0)] _
    refine XS.dload X105.here hx rfl (hb hby d6_212) rfl ?_
    show own_S p e below T105 m 214 _ [(.double ma), (.double ma), (.int 0), (.ref u0)] _
    refine XS.ddivS X105.here hx rfl (v := (FP.ddiv ma ma)) (hb hby d6_214) rfl hK.1.1 rfl ?_
    show own_S p e below T105 m 215 _ [(.double (FP.ddiv ma ma)), (.int 0), (.ref u0)] _
    refine st109 _ ?_
    show own_S p e below T109 m 216 _ [] _
    refine XS.aloadN X109.here hx rfl (hb hby d6_216) rfl rfl ?_
    show own_S p e below T109 m 217 _ [(.ref r0)] _
    refine st114 _ ?_
    show own_S p e below T114 m 220 _ [(.ref ri)] _
    refine XS.iloadN X114.here hx rfl (hb hby d6_220) rfl ?_
    show own_S p e below T114 m 221 #[oR r0, oR rw, oI 0, oI kp, oD ma, oV, oI 0, oU, oU, oU] [(.int 0), (.ref ri)] _
    refine X114.aaload hx (j := (0 : Int32)) (v := (.ref j0)) (by rw [e114]; exact Ar116.1) (State.isArrayOf_alike hZ.alike Ar116.2.1) rfl Ar116.2.2 hin117 hat117 (g := (mkF m 221 #[oR r0, oR rw, oI 0, oI kp, oD ma, oV, oI 0, oU, oU, oU] [(.int 0), (.ref ri)])) rfl rfl (hb hby d6_221) _ ?_
    show own_S p e below T114 m 222 _ [(.ref j0)] _
    refine XS.iload X114.here hx rfl (hb hby d6_222) rfl ?_
    show own_S p e below T114 m 224 _ [(.int 0), (.ref j0)] _
    jvm_step X114.here [X114.here.top, hx, (hb hby d6_224), Value.category]
    show own_S p e below T114 m 225 #[oR r0, oR rw, oI 0, oI kp, oD ma, oV, oI 0, oU, oU, oU] [(.int 0), (.ref j0), (.int 0), (.ref j0)] _
    refine X114.daload hx (j := (0 : Int32)) (v := (.double x0)) (by rw [e114]; exact Ar119.1) (State.isArrayOf_alike hZ.alike Ar119.2.1) Ar119.2.2 hin120 hat120 (g := (mkF m 225 #[oR r0, oR rw, oI 0, oI kp, oD ma, oV, oI 0, oU, oU, oU] [(.int 0), (.ref j0), (.int 0), (.ref j0)])) rfl rfl (hb hby d6_225) _ ?_
    show own_S p e below T114 m 226 _ [(.double x0), (.int 0), (.ref j0)] _
    refine XS.dload X114.here hx rfl (hb hby d6_226) rfl ?_
    show own_S p e below T114 m 228 _ [(.double ma), (.double x0), (.int 0), (.ref j0)] _
    refine XS.ddivS X114.here hx rfl (v := (FP.ddiv x0 ma)) (hb hby d6_228) rfl hK.1.2.1 rfl ?_
    show own_S p e below T114 m 229 _ [(.double (FP.ddiv x0 ma)), (.int 0), (.ref j0)] _
    refine st122 _ ?_
    show own_S p e below T122 m 230 _ [] _
    refine XS.iinc X122.here hx rfl (hb hby d6_230) rfl (l' := #[oR r0, oR rw, oI 0, oI kp, oD ma, oV, oI 1, oU, oU, oU]) rfl ?_
    refine XS.goto X122.here hx rfl (pc0 := 233) (pc' := 196) rfl (hb hby d6_233) (by decide) (by decide) ?_
    refine XS.iload X122.here hx rfl (hb hby d6_196) rfl ?_
    refine XS.aloadN X122.here hx rfl (hb hby d6_198) rfl rfl ?_
    show own_S p e below T122 m 199 _ [(.ref r0), (.int 1)] _
    refine st130 _ ?_
    show own_S p e below T130 m 202 _ [(.int 2), (.int 1)] _
    refine XS.icmpNo X130.here hx rfl (hb hby d6_202) rfl (tlt (by decide : (1 : Int32) < (2 : Int32))).2.1 ?_
    refine XS.aloadN X130.here hx rfl (hb hby d6_205) rfl rfl ?_
    refine XS.iloadN X130.here hx rfl (hb hby d6_206) rfl ?_
    show own_S p e below T130 m 207 #[oR r0, oR rw, oI 0, oI kp, oD ma, oV, oI 1, oU, oU, oU] [(.int 0), (.ref rw)] _
    refine X130.aaload hx (j := (0 : Int32)) (v := (.ref u0)) (by rw [e130]; exact Ar137.1) (State.isArrayOf_alike hZ.alike Ar137.2.1) rfl Ar137.2.2 hin138 hat138 (g := (mkF m 207 #[oR r0, oR rw, oI 0, oI kp, oD ma, oV, oI 1, oU, oU, oU] [(.int 0), (.ref rw)])) rfl rfl (hb hby d6_207) _ ?_
    show own_S p e below T130 m 208 _ [(.ref u0)] _
    refine XS.iload X130.here hx rfl (hb hby d6_208) rfl ?_
    show own_S p e below T130 m 210 _ [(.int 1), (.ref u0)] _
    jvm_step X130.here [X130.here.top, hx, (hb hby d6_210), Value.category]
    show own_S p e below T130 m 211 #[oR r0, oR rw, oI 0, oI kp, oD ma, oV, oI 1, oU, oU, oU] [(.int 1), (.ref u0), (.int 1), (.ref u0)] _
    refine X130.daload hx (j := (1 : Int32)) (v := (.double mb)) (by rw [e130]; exact Ar140.1) (State.isArrayOf_alike hZ.alike Ar140.2.1) Ar140.2.2 hin141 hat141 (g := (mkF m 211 #[oR r0, oR rw, oI 0, oI kp, oD ma, oV, oI 1, oU, oU, oU] [(.int 1), (.ref u0), (.int 1), (.ref u0)])) rfl rfl (hb hby d6_211) _ ?_
    show own_S p e below T130 m 212 _ [(.double mb), (.int 1), (.ref u0)] _
    refine XS.dload X130.here hx rfl (hb hby d6_212) rfl ?_
    show own_S p e below T130 m 214 _ [(.double ma), (.double mb), (.int 1), (.ref u0)] _
    refine XS.ddivS X130.here hx rfl (v := (FP.ddiv mb ma)) (hb hby d6_214) rfl hK.1.2.2.1 rfl ?_
    show own_S p e below T130 m 215 _ [(.double (FP.ddiv mb ma)), (.int 1), (.ref u0)] _
    refine st143 _ ?_
    show own_S p e below T143 m 216 _ [] _
    refine XS.aloadN X143.here hx rfl (hb hby d6_216) rfl rfl ?_
    show own_S p e below T143 m 217 _ [(.ref r0)] _
    refine st147 _ ?_
    show own_S p e below T147 m 220 _ [(.ref ri)] _
    refine XS.iloadN X147.here hx rfl (hb hby d6_220) rfl ?_
    show own_S p e below T147 m 221 #[oR r0, oR rw, oI 0, oI kp, oD ma, oV, oI 1, oU, oU, oU] [(.int 0), (.ref ri)] _
    refine X147.aaload hx (j := (0 : Int32)) (v := (.ref j0)) (by rw [e147]; exact Ar156.1) (State.isArrayOf_alike hZ.alike Ar156.2.1) rfl Ar156.2.2 hin157 hat157 (g := (mkF m 221 #[oR r0, oR rw, oI 0, oI kp, oD ma, oV, oI 1, oU, oU, oU] [(.int 0), (.ref ri)])) rfl rfl (hb hby d6_221) _ ?_
    show own_S p e below T147 m 222 _ [(.ref j0)] _
    refine XS.iload X147.here hx rfl (hb hby d6_222) rfl ?_
    show own_S p e below T147 m 224 _ [(.int 1), (.ref j0)] _
    jvm_step X147.here [X147.here.top, hx, (hb hby d6_224), Value.category]
    show own_S p e below T147 m 225 #[oR r0, oR rw, oI 0, oI kp, oD ma, oV, oI 1, oU, oU, oU] [(.int 1), (.ref j0), (.int 1), (.ref j0)] _
    refine X147.daload hx (j := (1 : Int32)) (v := (.double x1)) (by rw [e147]; exact Ar159.1) (State.isArrayOf_alike hZ.alike Ar159.2.1) Ar159.2.2 hin160 hat160 (g := (mkF m 225 #[oR r0, oR rw, oI 0, oI kp, oD ma, oV, oI 1, oU, oU, oU] [(.int 1), (.ref j0), (.int 1), (.ref j0)])) rfl rfl (hb hby d6_225) _ ?_
    show own_S p e below T147 m 226 _ [(.double x1), (.int 1), (.ref j0)] _
    refine XS.dload X147.here hx rfl (hb hby d6_226) rfl ?_
    show own_S p e below T147 m 228 _ [(.double ma), (.double x1), (.int 1), (.ref j0)] _
    refine XS.ddivS X147.here hx rfl (v := (FP.ddiv x1 ma)) (hb hby d6_228) rfl hK.1.2.2.2 rfl ?_
    show own_S p e below T147 m 229 _ [(.double (FP.ddiv x1 ma)), (.int 1), (.ref j0)] _
    refine st162 _ ?_
    show own_S p e below T162 m 230 _ [] _
    refine XS.iinc X162.here hx rfl (hb hby d6_230) rfl (l' := #[oR r0, oR rw, oI 0, oI kp, oD ma, oV, oI 2, oU, oU, oU]) rfl ?_
    refine XS.goto X162.here hx rfl (pc0 := 233) (pc' := 196) rfl (hb hby d6_233) (by decide) (by decide) ?_
    refine XS.iload X162.here hx rfl (hb hby d6_196) rfl ?_
    refine XS.aloadN X162.here hx rfl (hb hby d6_198) rfl rfl ?_
    show own_S p e below T162 m 199 _ [(.ref r0), (.int 2)] _
    refine st166 _ ?_
    show own_S p e below T166 m 202 _ [(.int 2), (.int 2)] _
    refine XS.icmpYes X166.here hx rfl (pc0 := 202) (pc' := 236) rfl (hb hby d6_202) rfl (flt (by decide : ¬ ((2 : Int32) < (2 : Int32)))).2.1 (by decide) (by decide) ?_
    refine XS.iconst X166.here hx rfl (hb hby d6_236) ?_
    refine XS.istore X166.here hx rfl (hb hby d6_237) rfl (l' := #[oR r0, oR rw, oI 0, oI kp, oD ma, oV, oI 0, oU, oU, oU]) rfl ?_
    refine XS.iload X166.here hx rfl (hb hby d6_239) rfl ?_
    show own_S p e below T166 m 241 _ [(.int 0)] _
    refine XS.aloadN X166.here hx rfl (hb hby d6_241) rfl rfl ?_
    show own_S p e below T166 m 242 _ [(.ref r0), (.int 0)] _
    refine st167 _ ?_
    show own_S p e below T167 m 245 _ [(.int 2), (.int 0)] _
    refine XS.icmpNo X167.here hx rfl (hb hby d6_245) rfl (tlt (by decide : (0 : Int32) < (2 : Int32))).2.1 ?_
    refine XS.aloadN X167.here hx rfl (hb hby d6_248) rfl rfl ?_
    refine XS.iload X167.here hx rfl (hb hby d6_249) rfl ?_
    show own_S p e below T167 m 251 _ [(.int 0), (.ref rw)] _
    refine X167.aaload hx (j := (0 : Int32)) (v := (.ref u0)) (by rw [e167]; exact Ar169.1) (State.isArrayOf_alike hZ.alike Ar169.2.1) rfl Ar169.2.2 hin170 hat170 (g := (mkF m 251 #[oR r0, oR rw, oI 0, oI kp, oD ma, oV, oI 0, oU, oU, oU] [(.int 0), (.ref rw)])) rfl rfl (hb hby d6_251) _ ?_
    show own_S p e below T167 m 252 #[oR r0, oR rw, oI 0, oI kp, oD ma, oV, oI 0, oU, oU, oU] [(.ref u0)] _
    refine XS.iloadN X167.here hx rfl (hb hby d6_252) rfl ?_
    show own_S p e below T167 m 253 _ [(.int 0), (.ref u0)] _
    refine X167.daload hx (j := (0 : Int32)) (v := (.double (FP.ddiv ma ma))) (by rw [e167]; exact Ar172.1) (State.isArrayOf_alike hZ.alike Ar172.2.1) Ar172.2.2 hin173 hat173 (g := (mkF m 253 #[oR r0, oR rw, oI 0, oI kp, oD ma, oV, oI 0, oU, oU, oU] [(.int 0), (.ref u0)])) rfl rfl (hb hby d6_253) _ ?_
    show own_S p e below T167 m 254 _ [(.double (FP.ddiv ma ma))] _
    refine XS.dstore X167.here hx rfl (hb hby d6_254) rfl (l' := #[oR r0, oR rw, oI 0, oI kp, oD ma, oV, oI 0, oD (FP.ddiv ma ma), oV, oU]) rfl ?_
    refine XS.iload X167.here hx rfl (hb hby d6_256) rfl ?_
    refine XS.iloadN X167.here hx rfl (hb hby d6_258) rfl ?_
    refine XS.icmpYes X167.here hx rfl (pc0 := 259) (pc' := 331) rfl (hb hby d6_259) rfl (teq (by decide : (0 : Int32) = (0 : Int32))).1 (by decide) (by decide) ?_
    show own_S p e below T167 m 331 _ [] _
    refine XS.iinc X167.here hx rfl (hb hby d6_331) rfl (l' := #[oR r0, oR rw, oI 0, oI kp, oD ma, oV, oI 1, oD (FP.ddiv ma ma), oV, oU]) rfl ?_
    refine XS.goto X167.here hx rfl (pc0 := 334) (pc' := 239) rfl (hb hby d6_334) (by decide) (by decide) ?_
    refine XS.iload X167.here hx rfl (hb hby d6_239) rfl ?_
    refine XS.aloadN X167.here hx rfl (hb hby d6_241) rfl rfl ?_
    show own_S p e below T167 m 242 _ [(.ref r0), (.int 1)] _
    refine st174 _ ?_
    show own_S p e below T174 m 245 _ [(.int 2), (.int 1)] _
    refine XS.icmpNo X174.here hx rfl (hb hby d6_245) rfl (tlt (by decide : (1 : Int32) < (2 : Int32))).2.1 ?_
    refine XS.aloadN X174.here hx rfl (hb hby d6_248) rfl rfl ?_
    refine XS.iload X174.here hx rfl (hb hby d6_249) rfl ?_
    show own_S p e below T174 m 251 #[oR r0, oR rw, oI 0, oI kp, oD ma, oV, oI 1, oD (FP.ddiv ma ma), oV, oU] [(.int 1), (.ref rw)] _
    refine X174.aaload hx (j := (1 : Int32)) (v := (.ref u1)) (by rw [e174]; exact Ar169.1) (State.isArrayOf_alike hZ.alike Ar169.2.1) rfl Ar169.2.2 hin175 hat175 (g := (mkF m 251 #[oR r0, oR rw, oI 0, oI kp, oD ma, oV, oI 1, oD (FP.ddiv ma ma), oV, oU] [(.int 1), (.ref rw)])) rfl rfl (hb hby d6_251) _ ?_
    show own_S p e below T174 m 252 _ [(.ref u1)] _
    refine XS.iloadN X174.here hx rfl (hb hby d6_252) rfl ?_
    show own_S p e below T174 m 253 _ [(.int 0), (.ref u1)] _
    refine X174.daload hx (j := (0 : Int32)) (v := (.double mc)) (by rw [e174]; exact Ar177.1) (State.isArrayOf_alike hZ.alike Ar177.2.1) Ar177.2.2 hin178 hat178 (g := (mkF m 253 #[oR r0, oR rw, oI 0, oI kp, oD ma, oV, oI 1, oD (FP.ddiv ma ma), oV, oU] [(.int 0), (.ref u1)])) rfl rfl (hb hby d6_253) _ ?_
    show own_S p e below T174 m 254 _ [(.double mc)] _
    refine XS.dstore X174.here hx rfl (hb hby d6_254) rfl (l' := #[oR r0, oR rw, oI 0, oI kp, oD ma, oV, oI 1, oD mc, oV, oU]) rfl ?_
    refine XS.iload X174.here hx rfl (hb hby d6_256) rfl ?_
    refine XS.iloadN X174.here hx rfl (hb hby d6_258) rfl ?_
    refine XS.icmpNo X174.here hx rfl (hb hby d6_259) rfl (feq (by decide : ¬ ((1 : Int32) = (0 : Int32)))).1 ?_
    show own_S p e below T174 m 262 _ [] _
    refine XS.dload X174.here hx rfl (hb hby d6_262) rfl ?_
    refine XS.dconst0 X174.here hx rfl (v := 0) (hb hby d6_264) rfl ?_
    show own_S p e below T174 m 265 _ [(.double 0), (.double mc)] _
    refine XS.dcmpS X174.here hx rfl (v := (cmpValue (FP.dcmp mc (0 : UInt64)) .l)) (hb hby d6_265) rfl rfl ?_
    exact kt
  by_cases hz : (cmpValue (FP.dcmp mc (0 : UInt64)) .l) = (0 : Int32)
  · skip
    obtain ⟨T180, X180, e180, st180⟩ := getF X174 hx hZ hown (host := "") (Or.inl (own_w hw 30 rfl)) Via.refl e174 Fc165 (g := (mkF m 242 #[oR r0, oR rw, oI 0, oI kp, oD ma, oV, oI 2, oD mc, oV, oU] [(.ref r0), (.int 2)])) rfl rfl (hb hby d6_242)
    refine ⟨(FP.ddiv ma ma), (FP.ddiv mb ma), (own_el mc mc (FP.ddiv ma ma)), (own_el mc md (FP.ddiv mb ma)), (FP.ddiv x0 ma), (FP.ddiv x1 ma), (own_el mc y0 (FP.ddiv x0 ma)), (own_el mc y1 (FP.ddiv x1 ma)), oU, _, _, X180, N162, (by rw [e180]; exact KK164), (by rw [e180]; exact Fc171), (by rw [e180]; exact (by rw [own_z2 hz]; exact Fc176)), (by rw [e180]; exact Va162), (by rw [e180]; exact (by rw [own_z2 hz]; exact ((((V_j1.other W109 (Ne.symm ne_u0_j1)).other W122 (Ne.symm ne_j0_j1)).other W143 (Ne.symm ne_u0_j1)).other W162 (Ne.symm ne_j0_j1)))), own_rA_rfl, One.u, fun t kt => ?_⟩
    refine pre179 _ ?_
    show own_S p e below T174 m 266 #[oR r0, oR rw, oI 0, oI kp, oD ma, oV, oI 1, oD mc, oV, oU] [(.int (cmpValue (FP.dcmp mc (0 : UInt64)) .l))] _
    refine XS.ifYes X174.here hx rfl (pc0 := 266) (pc' := 331) rfl (hb hby d6_266) rfl ((if0 _ _).trans (teq (hz : (cmpValue (FP.dcmp mc (0 : UInt64)) .l) = (0 : Int32))).1) (by decide) (by decide) ?_
    refine XS.iinc X174.here hx rfl (hb hby d6_331) rfl (l' := #[oR r0, oR rw, oI 0, oI kp, oD ma, oV, oI 2, oD mc, oV, oU]) rfl ?_
    refine XS.goto X174.here hx rfl (pc0 := 334) (pc' := 239) rfl (hb hby d6_334) (by decide) (by decide) ?_
    refine XS.iload X174.here hx rfl (hb hby d6_239) rfl ?_
    show own_S p e below T174 m 241 _ [(.int 2)] _
    refine XS.aloadN X174.here hx rfl (hb hby d6_241) rfl rfl ?_
    show own_S p e below T174 m 242 _ [(.ref r0), (.int 2)] _
    refine st180 _ ?_
    show own_S p e below T180 m 245 _ [(.int 2), (.int 2)] _
    refine XS.icmpYes X180.here hx rfl (pc0 := 245) (pc' := 337) rfl (hb hby d6_245) rfl (flt (by decide : ¬ ((2 : Int32) < (2 : Int32)))).2.1 (by decide) (by decide) ?_
    refine XS.iinc X180.here hx rfl (hb hby d6_337) rfl (l' := #[oR r0, oR rw, oI 1, oI kp, oD ma, oV, oI 2, oD mc, oV, oU]) rfl ?_
    refine XS.goto X180.here hx rfl (pc0 := 340) (pc' := 100) rfl (hb hby d6_340) (by decide) (by decide) ?_
    exact kt
  · skip
    obtain ⟨T181, X181, e181, st181⟩ := getF X174 hx hZ hown (host := "") (Or.inl (own_w hw 30 rfl)) Via.refl e174 Fc165 (g := (mkF m 275 #[oR r0, oR rw, oI 0, oI kp, oD ma, oV, oI 1, oD mc, oV, oI 0] [(.ref r0), (.int 0)])) rfl rfl (hb hby d6_275)
    have hin182 : ¬ ((1 : Int32) < 0 ∨ cl169.slots.size ≤ ((1 : Int32)).toNatClampNeg) := inb_of Sz169 ⟨by decide, by decide⟩
    have hat182 : cl169.slots[((1 : Int32)).toNatClampNeg]? = some (.ref u1) := Has.at Hh169 hin182 rfl
    have hin183 : ¬ ((0 : Int32) < 0 ∨ cl177.slots.size ≤ ((0 : Int32)).toNatClampNeg) := inb_of Sz177 ⟨by decide, by decide⟩
    have hat183 : cl177.slots[((0 : Int32)).toNatClampNeg]? = some (.double mc) := Has.at Hh177 hin183 rfl
    have hin184 : ¬ ((0 : Int32) < 0 ∨ cl169.slots.size ≤ ((0 : Int32)).toNatClampNeg) := inb_of Sz169 ⟨by decide, by decide⟩
    have hat184 : cl169.slots[((0 : Int32)).toNatClampNeg]? = some (.ref u0) := Has.at Hh169 hin184 rfl
    have hin185 : ¬ ((0 : Int32) < 0 ∨ cl172.slots.size ≤ ((0 : Int32)).toNatClampNeg) := inb_of Sz172 ⟨by decide, by decide⟩
    have hat185 : cl172.slots[((0 : Int32)).toNatClampNeg]? = some (.double (FP.ddiv ma ma)) := Has.at Hh172 hin185 rfl
    have hin186 : ¬ ((0 : Int32) < 0 ∨ cl177.slots.size ≤ ((0 : Int32)).toNatClampNeg) := inb_of Sz177 ⟨by decide, by decide⟩
    obtain ⟨T187, h187, X187, e187, W187, st187⟩ := stD X181 hx hZ e181 Ar177 (j := (0 : Int32)) hin186 (g := (mkF m 299 #[oR r0, oR rw, oI 0, oI kp, oD ma, oV, oI 1, oD mc, oV, oI 0] [(.double (FP.dsub mc (FP.dmul mc (FP.ddiv ma ma)))), (.int 0), (.ref u1)])) rfl rfl (hb hby d6_299)
    have Va187 := Arv.set Ar177 qk177 Sz177 Nz177 Hh177 Gg177 rfl W187 0 rfl (Nat.le_of_ble_eq_true rfl)
    have N187 := Fr.snoc X187 N162 g_u1
    have ZZ188 : n0 ≤ h187.size := Nat.le_trans ZZ163 (Nat.le_of_eq W187.size.symm)
    have KK189 : Keep h0 h187 [u0, u1, j0, j1] := KK164.wr W187 (Or.inl (List.mem_of_getElem? (i := 1) rfl))
    have Fc190 := ((Fc146.other W162 (Or.inl nq127)).other W187 (Or.inl nq126))
    obtain ⟨T191, X191, e191, st191⟩ := getF X187 hx hZ hown (host := "") (Or.inl (own_w hw 45 rfl)) Via.refl e187 Fc190 (g := (mkF m 301 #[oR r0, oR rw, oI 0, oI kp, oD ma, oV, oI 1, oD mc, oV, oI 0] [(.ref r0)])) rfl rfl (hb hby d6_301)
    have Fc192 := (V_ri.keep KK189 (ninS nq115 (ninS nq150 (ninS nq152 (ninS nq154 nin0)))))
    obtain ⟨cl193, Ar193, qk193, Sz193, Nz193, Hh193, Gg193⟩ := id Fc192
    have hin194 : ¬ ((1 : Int32) < 0 ∨ cl193.slots.size ≤ ((1 : Int32)).toNatClampNeg) := inb_of Sz193 ⟨by decide, by decide⟩
    have hat194 : cl193.slots[((1 : Int32)).toNatClampNeg]? = some (.ref j1) := Has.at Hh193 hin194 rfl
    have Fc195 := (((((V_j1.other W109 (Ne.symm ne_u0_j1)).other W122 (Ne.symm ne_j0_j1)).other W143 (Ne.symm ne_u0_j1)).other W162 (Ne.symm ne_j0_j1)).other W187 (Ne.symm ne_u1_j1))
    obtain ⟨cl196, Ar196, qk196, Sz196, Nz196, Hh196, Gg196⟩ := id Fc195
    have hin197 : ¬ ((0 : Int32) < 0 ∨ cl196.slots.size ≤ ((0 : Int32)).toNatClampNeg) := inb_of Sz196 ⟨by decide, by decide⟩
    have hat197 : cl196.slots[((0 : Int32)).toNatClampNeg]? = some (.double y0) := Has.at Hh196 hin197 rfl
    obtain ⟨T198, X198, e198, st198⟩ := getF X191 hx hZ hown (host := "") (Or.inl (own_w hw 45 rfl)) Via.refl e191 Fc190 (g := (mkF m 314 #[oR r0, oR rw, oI 0, oI kp, oD ma, oV, oI 1, oD mc, oV, oI 0] [(.ref r0), (.double mc), (.double y0), (.int 0), (.ref j1)])) rfl rfl (hb hby d6_314)
    have hin199 : ¬ ((0 : Int32) < 0 ∨ cl193.slots.size ≤ ((0 : Int32)).toNatClampNeg) := inb_of Sz193 ⟨by decide, by decide⟩
    have hat199 : cl193.slots[((0 : Int32)).toNatClampNeg]? = some (.ref j0) := Has.at Hh193 hin199 rfl
    have Fc200 := (Va162.other W187 (Ne.symm ne_u1_j0))
    obtain ⟨cl201, Ar201, qk201, Sz201, Nz201, Hh201, Gg201⟩ := id Fc200
    have hin202 : ¬ ((0 : Int32) < 0 ∨ cl201.slots.size ≤ ((0 : Int32)).toNatClampNeg) := inb_of Sz201 ⟨by decide, by decide⟩
    have hat202 : cl201.slots[((0 : Int32)).toNatClampNeg]? = some (.double (FP.ddiv x0 ma)) := Has.at Hh201 hin202 rfl
    have hin203 : ¬ ((0 : Int32) < 0 ∨ cl196.slots.size ≤ ((0 : Int32)).toNatClampNeg) := inb_of Sz196 ⟨by decide, by decide⟩
    obtain ⟨T204, h204, X204, e204, W204, st204⟩ := stD X198 hx hZ e198 Ar196 (j := (0 : Int32)) hin203 (g := (mkF m 324 #[oR r0, oR rw, oI 0, oI kp, oD ma, oV, oI 1, oD mc, oV, oI 0] [(.double (FP.dsub y0 (FP.dmul mc (FP.ddiv x0 ma)))), (.int 0), (.ref j1)])) rfl rfl (hb hby d6_324)
    have Va204 := Arv.set Ar196 qk196 Sz196 Nz196 Hh196 Gg196 rfl W204 0 rfl (Nat.le_of_ble_eq_true rfl)
    have N204 := Fr.snoc X204 N187 g_j1
    have ZZ205 : n0 ≤ h204.size := Nat.le_trans ZZ188 (Nat.le_of_eq W204.size.symm)
    have KK206 : Keep h0 h204 [u0, u1, j0, j1] := KK189.wr W204 (Or.inl (List.mem_of_getElem? (i := 3) rfl))
    have Fc207 := (F_rows_r0.keep KK206 (ninS nq112 (ninS nq126 (ninS nq127 (ninS nq128 nin0)))))
    obtain ⟨T208, X208, e208, st208⟩ := getF X204 hx hZ hown (host := "") (Or.inl (own_w hw 30 rfl)) Via.refl e204 Fc207 (g := (mkF m 275 #[oR r0, oR rw, oI 0, oI kp, oD ma, oV, oI 1, oD mc, oV, oI 1] [(.ref r0), (.int 1)])) rfl rfl (hb hby d6_275)
    have Fc209 := (V_rw.keep KK206 (ninS nq132 (ninS nq133 (ninS nq134 (ninS nq135 nin0)))))
    obtain ⟨cl210, Ar210, qk210, Sz210, Nz210, Hh210, Gg210⟩ := id Fc209
    have hin211 : ¬ ((1 : Int32) < 0 ∨ cl210.slots.size ≤ ((1 : Int32)).toNatClampNeg) := inb_of Sz210 ⟨by decide, by decide⟩
    have hat211 : cl210.slots[((1 : Int32)).toNatClampNeg]? = some (.ref u1) := Has.at Hh210 hin211 rfl
    have Fc212 := (Va187.other W204 ne_u1_j1)
    obtain ⟨cl213, Ar213, qk213, Sz213, Nz213, Hh213, Gg213⟩ := id Fc212
    have hin214 : ¬ ((1 : Int32) < 0 ∨ cl213.slots.size ≤ ((1 : Int32)).toNatClampNeg) := inb_of Sz213 ⟨by decide, by decide⟩
    have hat214 : cl213.slots[((1 : Int32)).toNatClampNeg]? = some (.double md) := Has.at Hh213 hin214 rfl
    have hin215 : ¬ ((0 : Int32) < 0 ∨ cl210.slots.size ≤ ((0 : Int32)).toNatClampNeg) := inb_of Sz210 ⟨by decide, by decide⟩
    have hat215 : cl210.slots[((0 : Int32)).toNatClampNeg]? = some (.ref u0) := Has.at Hh210 hin215 rfl
    have Fc216 := ((Fc171.other W187 ne_u0_u1).other W204 ne_u0_j1)
    obtain ⟨cl217, Ar217, qk217, Sz217, Nz217, Hh217, Gg217⟩ := id Fc216
    have hin218 : ¬ ((1 : Int32) < 0 ∨ cl217.slots.size ≤ ((1 : Int32)).toNatClampNeg) := inb_of Sz217 ⟨by decide, by decide⟩
    have hat218 : cl217.slots[((1 : Int32)).toNatClampNeg]? = some (.double (FP.ddiv mb ma)) := Has.at Hh217 hin218 rfl
    have hin219 : ¬ ((1 : Int32) < 0 ∨ cl213.slots.size ≤ ((1 : Int32)).toNatClampNeg) := inb_of Sz213 ⟨by decide, by decide⟩
    obtain ⟨T220, h220, X220, e220, W220, st220⟩ := stD X208 hx hZ e208 Ar213 (j := (1 : Int32)) hin219 (g := (mkF m 299 #[oR r0, oR rw, oI 0, oI kp, oD ma, oV, oI 1, oD mc, oV, oI 1] [(.double (FP.dsub md (FP.dmul mc (FP.ddiv mb ma)))), (.int 1), (.ref u1)])) rfl rfl (hb hby d6_299)
    have Va220 := Arv.set Ar213 qk213 Sz213 Nz213 Hh213 Gg213 rfl W220 1 rfl (Nat.le_of_ble_eq_true rfl)
    have N220 := Fr.snoc X220 N204 g_u1
    have ZZ221 : n0 ≤ h220.size := Nat.le_trans ZZ205 (Nat.le_of_eq W220.size.symm)
    have KK222 : Keep h0 h220 [u0, u1, j0, j1] := KK206.wr W220 (Or.inl (List.mem_of_getElem? (i := 1) rfl))
    have Fc223 := ((Fc190.other W204 (Or.inl nq128)).other W220 (Or.inl nq126))
    obtain ⟨T224, X224, e224, st224⟩ := getF X220 hx hZ hown (host := "") (Or.inl (own_w hw 45 rfl)) Via.refl e220 Fc223 (g := (mkF m 301 #[oR r0, oR rw, oI 0, oI kp, oD ma, oV, oI 1, oD mc, oV, oI 1] [(.ref r0)])) rfl rfl (hb hby d6_301)
    have Fc225 := (V_ri.keep KK222 (ninS nq115 (ninS nq150 (ninS nq152 (ninS nq154 nin0)))))
    obtain ⟨cl226, Ar226, qk226, Sz226, Nz226, Hh226, Gg226⟩ := id Fc225
    have hin227 : ¬ ((1 : Int32) < 0 ∨ cl226.slots.size ≤ ((1 : Int32)).toNatClampNeg) := inb_of Sz226 ⟨by decide, by decide⟩
    have hat227 : cl226.slots[((1 : Int32)).toNatClampNeg]? = some (.ref j1) := Has.at Hh226 hin227 rfl
    have Fc228 := (Va204.other W220 (Ne.symm ne_u1_j1))
    obtain ⟨cl229, Ar229, qk229, Sz229, Nz229, Hh229, Gg229⟩ := id Fc228
    have hin230 : ¬ ((1 : Int32) < 0 ∨ cl229.slots.size ≤ ((1 : Int32)).toNatClampNeg) := inb_of Sz229 ⟨by decide, by decide⟩
    have hat230 : cl229.slots[((1 : Int32)).toNatClampNeg]? = some (.double y1) := Has.at Hh229 hin230 rfl
    obtain ⟨T231, X231, e231, st231⟩ := getF X224 hx hZ hown (host := "") (Or.inl (own_w hw 45 rfl)) Via.refl e224 Fc223 (g := (mkF m 314 #[oR r0, oR rw, oI 0, oI kp, oD ma, oV, oI 1, oD mc, oV, oI 1] [(.ref r0), (.double mc), (.double y1), (.int 1), (.ref j1)])) rfl rfl (hb hby d6_314)
    have hin232 : ¬ ((0 : Int32) < 0 ∨ cl226.slots.size ≤ ((0 : Int32)).toNatClampNeg) := inb_of Sz226 ⟨by decide, by decide⟩
    have hat232 : cl226.slots[((0 : Int32)).toNatClampNeg]? = some (.ref j0) := Has.at Hh226 hin232 rfl
    have Fc233 := ((Fc200.other W204 ne_j0_j1).other W220 (Ne.symm ne_u1_j0))
    obtain ⟨cl234, Ar234, qk234, Sz234, Nz234, Hh234, Gg234⟩ := id Fc233
    have hin235 : ¬ ((1 : Int32) < 0 ∨ cl234.slots.size ≤ ((1 : Int32)).toNatClampNeg) := inb_of Sz234 ⟨by decide, by decide⟩
    have hat235 : cl234.slots[((1 : Int32)).toNatClampNeg]? = some (.double (FP.ddiv x1 ma)) := Has.at Hh234 hin235 rfl
    have hin236 : ¬ ((1 : Int32) < 0 ∨ cl229.slots.size ≤ ((1 : Int32)).toNatClampNeg) := inb_of Sz229 ⟨by decide, by decide⟩
    obtain ⟨T237, h237, X237, e237, W237, st237⟩ := stD X231 hx hZ e231 Ar229 (j := (1 : Int32)) hin236 (g := (mkF m 324 #[oR r0, oR rw, oI 0, oI kp, oD ma, oV, oI 1, oD mc, oV, oI 1] [(.double (FP.dsub y1 (FP.dmul mc (FP.ddiv x1 ma)))), (.int 1), (.ref j1)])) rfl rfl (hb hby d6_324)
    have Va237 := Arv.set Ar229 qk229 Sz229 Nz229 Hh229 Gg229 rfl W237 1 rfl (Nat.le_of_ble_eq_true rfl)
    have N237 := Fr.snoc X237 N220 g_j1
    have ZZ238 : n0 ≤ h237.size := Nat.le_trans ZZ221 (Nat.le_of_eq W237.size.symm)
    have KK239 : Keep h0 h237 [u0, u1, j0, j1] := KK222.wr W237 (Or.inl (List.mem_of_getElem? (i := 3) rfl))
    have Fc240 := (F_rows_r0.keep KK239 (ninS nq112 (ninS nq126 (ninS nq127 (ninS nq128 nin0)))))
    obtain ⟨T241, X241, e241, st241⟩ := getF X237 hx hZ hown (host := "") (Or.inl (own_w hw 30 rfl)) Via.refl e237 Fc240 (g := (mkF m 275 #[oR r0, oR rw, oI 0, oI kp, oD ma, oV, oI 1, oD mc, oV, oI 2] [(.ref r0), (.int 2)])) rfl rfl (hb hby d6_275)
    obtain ⟨T242, X242, e242, st242⟩ := getF X241 hx hZ hown (host := "") (Or.inl (own_w hw 30 rfl)) Via.refl e241 Fc240 (g := (mkF m 242 #[oR r0, oR rw, oI 0, oI kp, oD ma, oV, oI 2, oD mc, oV, oI 2] [(.ref r0), (.int 2)])) rfl rfl (hb hby d6_242)
    refine ⟨(FP.ddiv ma ma), (FP.ddiv mb ma), (own_el mc mc (FP.ddiv ma ma)), (own_el mc md (FP.ddiv mb ma)), (FP.ddiv x0 ma), (FP.ddiv x1 ma), (own_el mc y0 (FP.ddiv x0 ma)), (own_el mc y1 (FP.ddiv x1 ma)), (.val (.int 2)), _, _, X242, N237, (by rw [e242]; exact KK239), (by rw [e242]; exact ((Fc216.other W220 ne_u0_u1).other W237 ne_u0_j1)), (by rw [e242]; exact (by rw [own_n2 hz]; exact (Va220.other W237 ne_u1_j1))), (by rw [e242]; exact (Fc233.other W237 ne_j0_j1)), (by rw [e242]; exact (by rw [own_n2 hz]; exact Va237)), own_rA_rfl, (One.val rfl), fun t kt => ?_⟩
    refine pre179 _ ?_
    show own_S p e below T174 m 266 #[oR r0, oR rw, oI 0, oI kp, oD ma, oV, oI 1, oD mc, oV, oU] [(.int (cmpValue (FP.dcmp mc (0 : UInt64)) .l))] _
    refine XS.ifNo X174.here hx rfl (hb hby d6_266) rfl ((if0 _ _).trans (feq (hz : ¬ ((cmpValue (FP.dcmp mc (0 : UInt64)) .l) = (0 : Int32)))).1) ?_
    refine XS.iconst X174.here hx rfl (hb hby d6_269) ?_
    refine XS.istore X174.here hx rfl (hb hby d6_270) rfl (l' := #[oR r0, oR rw, oI 0, oI kp, oD ma, oV, oI 1, oD mc, oV, oI 0]) rfl ?_
    refine XS.iload X174.here hx rfl (hb hby d6_272) rfl ?_
    show own_S p e below T174 m 274 _ [(.int 0)] _
    refine XS.aloadN X174.here hx rfl (hb hby d6_274) rfl rfl ?_
    show own_S p e below T174 m 275 _ [(.ref r0), (.int 0)] _
    refine st181 _ ?_
    show own_S p e below T181 m 278 _ [(.int 2), (.int 0)] _
    refine XS.icmpNo X181.here hx rfl (hb hby d6_278) rfl (tlt (by decide : (0 : Int32) < (2 : Int32))).2.1 ?_
    refine XS.aloadN X181.here hx rfl (hb hby d6_281) rfl rfl ?_
    refine XS.iload X181.here hx rfl (hb hby d6_282) rfl ?_
    show own_S p e below T181 m 284 _ [(.int 1), (.ref rw)] _
    refine X181.aaload hx (j := (1 : Int32)) (v := (.ref u1)) (by rw [e181]; exact Ar169.1) (State.isArrayOf_alike hZ.alike Ar169.2.1) rfl Ar169.2.2 hin182 hat182 (g := (mkF m 284 #[oR r0, oR rw, oI 0, oI kp, oD ma, oV, oI 1, oD mc, oV, oI 0] [(.int 1), (.ref rw)])) rfl rfl (hb hby d6_284) _ ?_
    show own_S p e below T181 m 285 #[oR r0, oR rw, oI 0, oI kp, oD ma, oV, oI 1, oD mc, oV, oI 0] [(.ref u1)] _
    refine XS.iload X181.here hx rfl (hb hby d6_285) rfl ?_
    show own_S p e below T181 m 287 _ [(.int 0), (.ref u1)] _
    jvm_step X181.here [X181.here.top, hx, (hb hby d6_287), Value.category]
    show own_S p e below T181 m 288 #[oR r0, oR rw, oI 0, oI kp, oD ma, oV, oI 1, oD mc, oV, oI 0] [(.int 0), (.ref u1), (.int 0), (.ref u1)] _
    refine X181.daload hx (j := (0 : Int32)) (v := (.double mc)) (by rw [e181]; exact Ar177.1) (State.isArrayOf_alike hZ.alike Ar177.2.1) Ar177.2.2 hin183 hat183 (g := (mkF m 288 #[oR r0, oR rw, oI 0, oI kp, oD ma, oV, oI 1, oD mc, oV, oI 0] [(.int 0), (.ref u1), (.int 0), (.ref u1)])) rfl rfl (hb hby d6_288) _ ?_
    show own_S p e below T181 m 289 _ [(.double mc), (.int 0), (.ref u1)] _
    refine XS.dload X181.here hx rfl (hb hby d6_289) rfl ?_
    refine XS.aloadN X181.here hx rfl (hb hby d6_291) rfl rfl ?_
    refine XS.iloadN X181.here hx rfl (hb hby d6_292) rfl ?_
    show own_S p e below T181 m 293 _ [(.int 0), (.ref rw), (.double mc), (.double mc), (.int 0), (.ref u1)] _
    refine X181.aaload hx (j := (0 : Int32)) (v := (.ref u0)) (by rw [e181]; exact Ar169.1) (State.isArrayOf_alike hZ.alike Ar169.2.1) rfl Ar169.2.2 hin184 hat184 (g := (mkF m 293 #[oR r0, oR rw, oI 0, oI kp, oD ma, oV, oI 1, oD mc, oV, oI 0] [(.int 0), (.ref rw), (.double mc), (.double mc), (.int 0), (.ref u1)])) rfl rfl (hb hby d6_293) _ ?_
    show own_S p e below T181 m 294 _ [(.ref u0), (.double mc), (.double mc), (.int 0), (.ref u1)] _
    refine XS.iload X181.here hx rfl (hb hby d6_294) rfl ?_
    show own_S p e below T181 m 296 _ [(.int 0), (.ref u0), (.double mc), (.double mc), (.int 0), (.ref u1)] _
    refine X181.daload hx (j := (0 : Int32)) (v := (.double (FP.ddiv ma ma))) (by rw [e181]; exact Ar172.1) (State.isArrayOf_alike hZ.alike Ar172.2.1) Ar172.2.2 hin185 hat185 (g := (mkF m 296 #[oR r0, oR rw, oI 0, oI kp, oD ma, oV, oI 1, oD mc, oV, oI 0] [(.int 0), (.ref u0), (.double mc), (.double mc), (.int 0), (.ref u1)])) rfl rfl (hb hby d6_296) _ ?_
    show own_S p e below T181 m 297 #[oR r0, oR rw, oI 0, oI kp, oD ma, oV, oI 1, oD mc, oV, oI 0] [(.double (FP.ddiv ma ma)), (.double mc), (.double mc), (.int 0), (.ref u1)] _
    refine XS.dmulS X181.here hx rfl (v := (FP.dmul mc (FP.ddiv ma ma))) (hb hby d6_297) rfl (hK.2 hz).1.1 rfl ?_
    show own_S p e below T181 m 298 _ [(.double (FP.dmul mc (FP.ddiv ma ma))), (.double mc), (.int 0), (.ref u1)] _
    refine XS.dsubS X181.here hx rfl (v := (FP.dsub mc (FP.dmul mc (FP.ddiv ma ma)))) (hb hby d6_298) rfl (hK.2 hz).1.2 rfl ?_
    show own_S p e below T181 m 299 _ [(.double (FP.dsub mc (FP.dmul mc (FP.ddiv ma ma)))), (.int 0), (.ref u1)] _
    refine st187 _ ?_
    show own_S p e below T187 m 300 _ [] _
    refine XS.aloadN X187.here hx rfl (hb hby d6_300) rfl rfl ?_
    show own_S p e below T187 m 301 _ [(.ref r0)] _
    refine st191 _ ?_
    show own_S p e below T191 m 304 _ [(.ref ri)] _
    refine XS.iload X191.here hx rfl (hb hby d6_304) rfl ?_
    show own_S p e below T191 m 306 _ [(.int 1), (.ref ri)] _
    refine X191.aaload hx (j := (1 : Int32)) (v := (.ref j1)) (by rw [e191]; exact Ar193.1) (State.isArrayOf_alike hZ.alike Ar193.2.1) rfl Ar193.2.2 hin194 hat194 (g := (mkF m 306 #[oR r0, oR rw, oI 0, oI kp, oD ma, oV, oI 1, oD mc, oV, oI 0] [(.int 1), (.ref ri)])) rfl rfl (hb hby d6_306) _ ?_
    show own_S p e below T191 m 307 #[oR r0, oR rw, oI 0, oI kp, oD ma, oV, oI 1, oD mc, oV, oI 0] [(.ref j1)] _
    refine XS.iload X191.here hx rfl (hb hby d6_307) rfl ?_
    show own_S p e below T191 m 309 _ [(.int 0), (.ref j1)] _
    jvm_step X191.here [X191.here.top, hx, (hb hby d6_309), Value.category]
    show own_S p e below T191 m 310 #[oR r0, oR rw, oI 0, oI kp, oD ma, oV, oI 1, oD mc, oV, oI 0] [(.int 0), (.ref j1), (.int 0), (.ref j1)] _
    refine X191.daload hx (j := (0 : Int32)) (v := (.double y0)) (by rw [e191]; exact Ar196.1) (State.isArrayOf_alike hZ.alike Ar196.2.1) Ar196.2.2 hin197 hat197 (g := (mkF m 310 #[oR r0, oR rw, oI 0, oI kp, oD ma, oV, oI 1, oD mc, oV, oI 0] [(.int 0), (.ref j1), (.int 0), (.ref j1)])) rfl rfl (hb hby d6_310) _ ?_
    show own_S p e below T191 m 311 _ [(.double y0), (.int 0), (.ref j1)] _
    refine XS.dload X191.here hx rfl (hb hby d6_311) rfl ?_
    refine XS.aloadN X191.here hx rfl (hb hby d6_313) rfl rfl ?_
    show own_S p e below T191 m 314 _ [(.ref r0), (.double mc), (.double y0), (.int 0), (.ref j1)] _
    refine st198 _ ?_
    show own_S p e below T198 m 317 _ [(.ref ri), (.double mc), (.double y0), (.int 0), (.ref j1)] _
    refine XS.iloadN X198.here hx rfl (hb hby d6_317) rfl ?_
    show own_S p e below T198 m 318 _ [(.int 0), (.ref ri), (.double mc), (.double y0), (.int 0), (.ref j1)] _
    refine X198.aaload hx (j := (0 : Int32)) (v := (.ref j0)) (by rw [e198]; exact Ar193.1) (State.isArrayOf_alike hZ.alike Ar193.2.1) rfl Ar193.2.2 hin199 hat199 (g := (mkF m 318 #[oR r0, oR rw, oI 0, oI kp, oD ma, oV, oI 1, oD mc, oV, oI 0] [(.int 0), (.ref ri), (.double mc), (.double y0), (.int 0), (.ref j1)])) rfl rfl (hb hby d6_318) _ ?_
    show own_S p e below T198 m 319 _ [(.ref j0), (.double mc), (.double y0), (.int 0), (.ref j1)] _
    refine XS.iload X198.here hx rfl (hb hby d6_319) rfl ?_
    show own_S p e below T198 m 321 #[oR r0, oR rw, oI 0, oI kp, oD ma, oV, oI 1, oD mc, oV, oI 0] [(.int 0), (.ref j0), (.double mc), (.double y0), (.int 0), (.ref j1)] _
    refine X198.daload hx (j := (0 : Int32)) (v := (.double (FP.ddiv x0 ma))) (by rw [e198]; exact Ar201.1) (State.isArrayOf_alike hZ.alike Ar201.2.1) Ar201.2.2 hin202 hat202 (g := (mkF m 321 #[oR r0, oR rw, oI 0, oI kp, oD ma, oV, oI 1, oD mc, oV, oI 0] [(.int 0), (.ref j0), (.double mc), (.double y0), (.int 0), (.ref j1)])) rfl rfl (hb hby d6_321) _ ?_
    show own_S p e below T198 m 322 _ [(.double (FP.ddiv x0 ma)), (.double mc), (.double y0), (.int 0), (.ref j1)] _
    refine XS.dmulS X198.here hx rfl (v := (FP.dmul mc (FP.ddiv x0 ma))) (hb hby d6_322) rfl (hK.2 hz).2.1.1 rfl ?_
    show own_S p e below T198 m 323 _ [(.double (FP.dmul mc (FP.ddiv x0 ma))), (.double y0), (.int 0), (.ref j1)] _
    refine XS.dsubS X198.here hx rfl (v := (FP.dsub y0 (FP.dmul mc (FP.ddiv x0 ma)))) (hb hby d6_323) rfl (hK.2 hz).2.1.2 rfl ?_
    show own_S p e below T198 m 324 _ [(.double (FP.dsub y0 (FP.dmul mc (FP.ddiv x0 ma)))), (.int 0), (.ref j1)] _
    refine st204 _ ?_
    show own_S p e below T204 m 325 _ [] _
    refine XS.iinc X204.here hx rfl (hb hby d6_325) rfl (l' := #[oR r0, oR rw, oI 0, oI kp, oD ma, oV, oI 1, oD mc, oV, oI 1]) rfl ?_
    refine XS.goto X204.here hx rfl (pc0 := 328) (pc' := 272) rfl (hb hby d6_328) (by decide) (by decide) ?_
    refine XS.iload X204.here hx rfl (hb hby d6_272) rfl ?_
    refine XS.aloadN X204.here hx rfl (hb hby d6_274) rfl rfl ?_
    show own_S p e below T204 m 275 _ [(.ref r0), (.int 1)] _
    refine st208 _ ?_
    show own_S p e below T208 m 278 _ [(.int 2), (.int 1)] _
    refine XS.icmpNo X208.here hx rfl (hb hby d6_278) rfl (tlt (by decide : (1 : Int32) < (2 : Int32))).2.1 ?_
    refine XS.aloadN X208.here hx rfl (hb hby d6_281) rfl rfl ?_
    refine XS.iload X208.here hx rfl (hb hby d6_282) rfl ?_
    show own_S p e below T208 m 284 #[oR r0, oR rw, oI 0, oI kp, oD ma, oV, oI 1, oD mc, oV, oI 1] [(.int 1), (.ref rw)] _
    refine X208.aaload hx (j := (1 : Int32)) (v := (.ref u1)) (by rw [e208]; exact Ar210.1) (State.isArrayOf_alike hZ.alike Ar210.2.1) rfl Ar210.2.2 hin211 hat211 (g := (mkF m 284 #[oR r0, oR rw, oI 0, oI kp, oD ma, oV, oI 1, oD mc, oV, oI 1] [(.int 1), (.ref rw)])) rfl rfl (hb hby d6_284) _ ?_
    show own_S p e below T208 m 285 _ [(.ref u1)] _
    refine XS.iload X208.here hx rfl (hb hby d6_285) rfl ?_
    show own_S p e below T208 m 287 _ [(.int 1), (.ref u1)] _
    jvm_step X208.here [X208.here.top, hx, (hb hby d6_287), Value.category]
    show own_S p e below T208 m 288 #[oR r0, oR rw, oI 0, oI kp, oD ma, oV, oI 1, oD mc, oV, oI 1] [(.int 1), (.ref u1), (.int 1), (.ref u1)] _
    refine X208.daload hx (j := (1 : Int32)) (v := (.double md)) (by rw [e208]; exact Ar213.1) (State.isArrayOf_alike hZ.alike Ar213.2.1) Ar213.2.2 hin214 hat214 (g := (mkF m 288 #[oR r0, oR rw, oI 0, oI kp, oD ma, oV, oI 1, oD mc, oV, oI 1] [(.int 1), (.ref u1), (.int 1), (.ref u1)])) rfl rfl (hb hby d6_288) _ ?_
    show own_S p e below T208 m 289 _ [(.double md), (.int 1), (.ref u1)] _
    refine XS.dload X208.here hx rfl (hb hby d6_289) rfl ?_
    refine XS.aloadN X208.here hx rfl (hb hby d6_291) rfl rfl ?_
    refine XS.iloadN X208.here hx rfl (hb hby d6_292) rfl ?_
    show own_S p e below T208 m 293 _ [(.int 0), (.ref rw), (.double mc), (.double md), (.int 1), (.ref u1)] _
    refine X208.aaload hx (j := (0 : Int32)) (v := (.ref u0)) (by rw [e208]; exact Ar210.1) (State.isArrayOf_alike hZ.alike Ar210.2.1) rfl Ar210.2.2 hin215 hat215 (g := (mkF m 293 #[oR r0, oR rw, oI 0, oI kp, oD ma, oV, oI 1, oD mc, oV, oI 1] [(.int 0), (.ref rw), (.double mc), (.double md), (.int 1), (.ref u1)])) rfl rfl (hb hby d6_293) _ ?_
    show own_S p e below T208 m 294 _ [(.ref u0), (.double mc), (.double md), (.int 1), (.ref u1)] _
    refine XS.iload X208.here hx rfl (hb hby d6_294) rfl ?_
    show own_S p e below T208 m 296 _ [(.int 1), (.ref u0), (.double mc), (.double md), (.int 1), (.ref u1)] _
    refine X208.daload hx (j := (1 : Int32)) (v := (.double (FP.ddiv mb ma))) (by rw [e208]; exact Ar217.1) (State.isArrayOf_alike hZ.alike Ar217.2.1) Ar217.2.2 hin218 hat218 (g := (mkF m 296 #[oR r0, oR rw, oI 0, oI kp, oD ma, oV, oI 1, oD mc, oV, oI 1] [(.int 1), (.ref u0), (.double mc), (.double md), (.int 1), (.ref u1)])) rfl rfl (hb hby d6_296) _ ?_
    show own_S p e below T208 m 297 #[oR r0, oR rw, oI 0, oI kp, oD ma, oV, oI 1, oD mc, oV, oI 1] [(.double (FP.ddiv mb ma)), (.double mc), (.double md), (.int 1), (.ref u1)] _
    refine XS.dmulS X208.here hx rfl (v := (FP.dmul mc (FP.ddiv mb ma))) (hb hby d6_297) rfl (hK.2 hz).2.2.1.1 rfl ?_
    show own_S p e below T208 m 298 _ [(.double (FP.dmul mc (FP.ddiv mb ma))), (.double md), (.int 1), (.ref u1)] _
    refine XS.dsubS X208.here hx rfl (v := (FP.dsub md (FP.dmul mc (FP.ddiv mb ma)))) (hb hby d6_298) rfl (hK.2 hz).2.2.1.2 rfl ?_
    show own_S p e below T208 m 299 _ [(.double (FP.dsub md (FP.dmul mc (FP.ddiv mb ma)))), (.int 1), (.ref u1)] _
    refine st220 _ ?_
    show own_S p e below T220 m 300 _ [] _
    refine XS.aloadN X220.here hx rfl (hb hby d6_300) rfl rfl ?_
    show own_S p e below T220 m 301 _ [(.ref r0)] _
    refine st224 _ ?_
    show own_S p e below T224 m 304 _ [(.ref ri)] _
    refine XS.iload X224.here hx rfl (hb hby d6_304) rfl ?_
    show own_S p e below T224 m 306 _ [(.int 1), (.ref ri)] _
    refine X224.aaload hx (j := (1 : Int32)) (v := (.ref j1)) (by rw [e224]; exact Ar226.1) (State.isArrayOf_alike hZ.alike Ar226.2.1) rfl Ar226.2.2 hin227 hat227 (g := (mkF m 306 #[oR r0, oR rw, oI 0, oI kp, oD ma, oV, oI 1, oD mc, oV, oI 1] [(.int 1), (.ref ri)])) rfl rfl (hb hby d6_306) _ ?_
    show own_S p e below T224 m 307 #[oR r0, oR rw, oI 0, oI kp, oD ma, oV, oI 1, oD mc, oV, oI 1] [(.ref j1)] _
    refine XS.iload X224.here hx rfl (hb hby d6_307) rfl ?_
    show own_S p e below T224 m 309 _ [(.int 1), (.ref j1)] _
    jvm_step X224.here [X224.here.top, hx, (hb hby d6_309), Value.category]
    show own_S p e below T224 m 310 #[oR r0, oR rw, oI 0, oI kp, oD ma, oV, oI 1, oD mc, oV, oI 1] [(.int 1), (.ref j1), (.int 1), (.ref j1)] _
    refine X224.daload hx (j := (1 : Int32)) (v := (.double y1)) (by rw [e224]; exact Ar229.1) (State.isArrayOf_alike hZ.alike Ar229.2.1) Ar229.2.2 hin230 hat230 (g := (mkF m 310 #[oR r0, oR rw, oI 0, oI kp, oD ma, oV, oI 1, oD mc, oV, oI 1] [(.int 1), (.ref j1), (.int 1), (.ref j1)])) rfl rfl (hb hby d6_310) _ ?_
    show own_S p e below T224 m 311 _ [(.double y1), (.int 1), (.ref j1)] _
    refine XS.dload X224.here hx rfl (hb hby d6_311) rfl ?_
    refine XS.aloadN X224.here hx rfl (hb hby d6_313) rfl rfl ?_
    show own_S p e below T224 m 314 _ [(.ref r0), (.double mc), (.double y1), (.int 1), (.ref j1)] _
    refine st231 _ ?_
    show own_S p e below T231 m 317 _ [(.ref ri), (.double mc), (.double y1), (.int 1), (.ref j1)] _
    refine XS.iloadN X231.here hx rfl (hb hby d6_317) rfl ?_
    show own_S p e below T231 m 318 _ [(.int 0), (.ref ri), (.double mc), (.double y1), (.int 1), (.ref j1)] _
    refine X231.aaload hx (j := (0 : Int32)) (v := (.ref j0)) (by rw [e231]; exact Ar226.1) (State.isArrayOf_alike hZ.alike Ar226.2.1) rfl Ar226.2.2 hin232 hat232 (g := (mkF m 318 #[oR r0, oR rw, oI 0, oI kp, oD ma, oV, oI 1, oD mc, oV, oI 1] [(.int 0), (.ref ri), (.double mc), (.double y1), (.int 1), (.ref j1)])) rfl rfl (hb hby d6_318) _ ?_
    show own_S p e below T231 m 319 _ [(.ref j0), (.double mc), (.double y1), (.int 1), (.ref j1)] _
    refine XS.iload X231.here hx rfl (hb hby d6_319) rfl ?_
    show own_S p e below T231 m 321 #[oR r0, oR rw, oI 0, oI kp, oD ma, oV, oI 1, oD mc, oV, oI 1] [(.int 1), (.ref j0), (.double mc), (.double y1), (.int 1), (.ref j1)] _
    refine X231.daload hx (j := (1 : Int32)) (v := (.double (FP.ddiv x1 ma))) (by rw [e231]; exact Ar234.1) (State.isArrayOf_alike hZ.alike Ar234.2.1) Ar234.2.2 hin235 hat235 (g := (mkF m 321 #[oR r0, oR rw, oI 0, oI kp, oD ma, oV, oI 1, oD mc, oV, oI 1] [(.int 1), (.ref j0), (.double mc), (.double y1), (.int 1), (.ref j1)])) rfl rfl (hb hby d6_321) _ ?_
    show own_S p e below T231 m 322 _ [(.double (FP.ddiv x1 ma)), (.double mc), (.double y1), (.int 1), (.ref j1)] _
    refine XS.dmulS X231.here hx rfl (v := (FP.dmul mc (FP.ddiv x1 ma))) (hb hby d6_322) rfl (hK.2 hz).2.2.2.1 rfl ?_
    show own_S p e below T231 m 323 _ [(.double (FP.dmul mc (FP.ddiv x1 ma))), (.double y1), (.int 1), (.ref j1)] _
    refine XS.dsubS X231.here hx rfl (v := (FP.dsub y1 (FP.dmul mc (FP.ddiv x1 ma)))) (hb hby d6_323) rfl (hK.2 hz).2.2.2.2 rfl ?_
    show own_S p e below T231 m 324 _ [(.double (FP.dsub y1 (FP.dmul mc (FP.ddiv x1 ma)))), (.int 1), (.ref j1)] _
    refine st237 _ ?_
    show own_S p e below T237 m 325 _ [] _
    refine XS.iinc X237.here hx rfl (hb hby d6_325) rfl (l' := #[oR r0, oR rw, oI 0, oI kp, oD ma, oV, oI 1, oD mc, oV, oI 2]) rfl ?_
    refine XS.goto X237.here hx rfl (pc0 := 328) (pc' := 272) rfl (hb hby d6_328) (by decide) (by decide) ?_
    refine XS.iload X237.here hx rfl (hb hby d6_272) rfl ?_
    refine XS.aloadN X237.here hx rfl (hb hby d6_274) rfl rfl ?_
    show own_S p e below T237 m 275 _ [(.ref r0), (.int 2)] _
    refine st241 _ ?_
    show own_S p e below T241 m 278 _ [(.int 2), (.int 2)] _
    refine XS.icmpYes X241.here hx rfl (pc0 := 278) (pc' := 331) rfl (hb hby d6_278) rfl (flt (by decide : ¬ ((2 : Int32) < (2 : Int32)))).2.1 (by decide) (by decide) ?_
    refine XS.iinc X241.here hx rfl (hb hby d6_331) rfl (l' := #[oR r0, oR rw, oI 0, oI kp, oD ma, oV, oI 2, oD mc, oV, oI 2]) rfl ?_
    refine XS.goto X241.here hx rfl (pc0 := 334) (pc' := 239) rfl (hb hby d6_334) (by decide) (by decide) ?_
    refine XS.iload X241.here hx rfl (hb hby d6_239) rfl ?_
    show own_S p e below T241 m 241 _ [(.int 2)] _
    refine XS.aloadN X241.here hx rfl (hb hby d6_241) rfl rfl ?_
    show own_S p e below T241 m 242 _ [(.ref r0), (.int 2)] _
    refine st242 _ ?_
    show own_S p e below T242 m 245 _ [(.int 2), (.int 2)] _
    refine XS.icmpYes X242.here hx rfl (pc0 := 245) (pc' := 337) rfl (hb hby d6_245) rfl (flt (by decide : ¬ ((2 : Int32) < (2 : Int32)))).2.1 (by decide) (by decide) ?_
    refine XS.iinc X242.here hx rfl (hb hby d6_337) rfl (l' := #[oR r0, oR rw, oI 1, oI kp, oD ma, oV, oI 2, oD mc, oV, oI 2]) rfl ?_
    refine XS.goto X242.here hx rfl (pc0 := 340) (pc' := 100) rfl (hb hby d6_340) (by decide) (by decide) ?_
    exact kt
theorem d6_100 : decode k6 100 = .ok (.iload_n 2, 1) := by decide +kernel
theorem d6_101 : decode k6 101 = .ok (.aload_n 0, 1) := by decide +kernel
theorem d6_102 : decode k6 102 = .ok (.getfield 31, 3) := by decide +kernel
theorem d6_105 : decode k6 105 = .ok (.if_icmp .ge 238, 3) := by decide +kernel
theorem d6_108 : decode k6 108 = .ok (.iload_n 2, 1) := by decide +kernel
theorem d6_109 : decode k6 109 = .ok (.istore_n 3, 1) := by decide +kernel
theorem d6_110 : decode k6 110 = .ok (.iload_n 2, 1) := by decide +kernel
theorem d6_111 : decode k6 111 = .ok (.iconst 1, 1) := by decide +kernel
theorem d6_112 : decode k6 112 = .ok (.iadd, 1) := by decide +kernel
theorem d6_113 : decode k6 113 = .ok (.istore 4, 2) := by decide +kernel
theorem d6_115 : decode k6 115 = .ok (.iload 4, 2) := by decide +kernel
theorem d6_117 : decode k6 117 = .ok (.aload_n 0, 1) := by decide +kernel
theorem d6_118 : decode k6 118 = .ok (.getfield 31, 3) := by decide +kernel
theorem d6_121 : decode k6 121 = .ok (.if_icmp .ge 33, 3) := by decide +kernel
set_option maxRecDepth 65536 in
set_option maxHeartbeats 40000000 in
theorem own_E1 (l : Launch) (Z : State) (a0 : Array Value) (hw : own_HW Z a0) (r0 : Addr) (rw : Addr) (ri : Addr) (u0 : Addr) (u1 : Addr) (j0 : Addr) (j1 : Addr) (kw : ClassId) (kri : ClassId) (ku : ClassId) (ki : ClassId) (kp : Int32) (ma : UInt64) (mb : UInt64) (mc : UInt64) (md : UInt64) (x0 : UInt64) (x1 : UInt64) (y0 : UInt64) (y1 : UInt64) (t4 : UInt64) (t7 : UInt64) (s9 : Slot) (h0 : Heap) (n0 : Nat) (Z0 : n0 ≤ h0.size) (F_rows_r0 : Fld Z h0 r0 own_K1 "rows" "I" (.int 2)) (F_inverse_r0 : Fld Z h0 r0 own_K1 "inverse" "[[D" (.ref ri)) (V_rw : Arv Z h0 rw kw (.array .double) (2 : Int32) [(.ref u0), (.ref u1)] .null) (V_ri : Arv Z h0 ri kri (.array .double) (2 : Int32) [(.ref j0), (.ref j1)] .null) (V_u0 : Arv Z h0 u0 ku .double (2 : Int32) [(.double ma), (.double mb)] (.double 0)) (V_u1 : Arv Z h0 u1 ku .double (2 : Int32) [(.double mc), (.double md)] (.double 0)) (V_j0 : Arv Z h0 j0 ki .double (2 : Int32) [(.double x0), (.double x1)] (.double 0)) (V_j1 : Arv Z h0 j1 ki .double (2 : Int32) [(.double y0), (.double y1)] (.double 0)) (E_r0 : Exa Z h0 r0 own_K1) (E_rw : Exa Z h0 rw "[[D") (E_ri : Exa Z h0 ri "[[D") (E_u0 : Exa Z h0 u0 "[D") (E_u1 : Exa Z h0 u1 "[D") (E_j0 : Exa Z h0 j0 "[D") (E_j1 : Exa Z h0 j1 "[D") (g_u0 : n0 ≤ u0) (g_u1 : n0 ≤ u1) (g_j0 : n0 ≤ j0) (g_j1 : n0 ≤ j1) (ne_u0_u1 : u0 ≠ u1) (ne_j0_j1 : j0 ≠ j1) (ne_u0_j0 : u0 ≠ j0) (ne_u0_j1 : u0 ≠ j1) (ne_u1_j0 : u1 ≠ j0) (ne_u1_j1 : u1 ≠ j1) (hK : own_okB ma mb mc md x0 x1 y0 y1) (O_rw : OvrA Z kw .double "[D") (O_ri : OvrA Z kri .double "[D") (g_rw : n0 ≤ rw) (g_ri : n0 ≤ ri) (ne_rw_ri : rw ≠ ri) (hT : own_tol md) (hs9 : One s9)
    {p : Program} {e : Env} {s : State} {m : MethodId} {args : Array Value} {below : List Frame} {meth : Method} {c : Code} {s₁ : State} {Lc : List Loc} (hx : p.tables.exec = Jvm.exec) (hby : c.code = prog_41_method_12_code) (hml : c.maxLocals = 10) (hZ : Z.Warmed39 s.vm) (hown : s.vm.findClass own_K1 = some m.cls) (hnm : meth.name = "refresh") (X0 : Stand p l e ({ frames := 1, cells := 3, slots := 6, locals := 40 } : Room) s m args below meth c s₁ Lc 3 6) (e0 : s₁.heap = h0) (N0 : Fr n0 Lc) :
    ∃ a1 : UInt64, ∃ b1 : UInt64, ∃ c1 : UInt64, ∃ d1 : UInt64, ∃ x01 : UInt64, ∃ x11 : UInt64, ∃ y01 : UInt64, ∃ y11 : UInt64, ∃ s9' : Slot, ∃ T : State, ∃ L : List Loc, Stand p l e ({ frames := 1, cells := 3, slots := 6, locals := 40 } : Room) s m args below meth c T L 3 6 ∧ Fr n0 L ∧ (Keep h0 T.heap [rw, ri, u0, u1, j0, j1]) ∧ (Arv Z T.heap u0 ku .double (2 : Int32) [(.double a1), (.double b1)] (.double 0)) ∧ (Arv Z T.heap u1 ku .double (2 : Int32) [(.double c1), (.double d1)] (.double 0)) ∧ (Arv Z T.heap j0 ki .double (2 : Int32) [(.double x01), (.double x11)] (.double 0)) ∧ (Arv Z T.heap j1 ki .double (2 : Int32) [(.double y01), (.double y11)] (.double 0)) ∧ (own_rB ma mb mc md x0 x1 y0 y1 a1 b1 c1 d1 x01 x11 y01 y11) ∧ (One s9') ∧ (Arv Z T.heap rw kw (.array .double) (2 : Int32) [(.ref u0), (.ref u1)] .null) ∧ (Arv Z T.heap ri kri (.array .double) (2 : Int32) [(.ref j0), (.ref j1)] .null) ∧ ∀ t, Steps p.tables e below (T.setTop (mkF m 343 #[oR r0, oR rw, oI 2, oI 1, oD md, oV, oI 2, oD (FP.ddiv md md), oV, s9'] [])) t → Steps p.tables e below (s₁.setTop (mkF m 100 #[oR r0, oR rw, oI 1, oI kp, oD t4, oV, oI 2, oD t7, oV, s9] [])) t := by
  obtain ⟨T101, X101, e101, st101⟩ := getF X0 hx hZ hown (host := "") (Or.inl (own_w hw 30 rfl)) Via.refl e0 F_rows_r0 (g := (mkF m 102 #[oR r0, oR rw, oI 1, oI kp, oD t4, oV, oI 2, oD t7, oV, s9] [(.ref r0), (.int 1)])) rfl rfl (hb hby d6_102)
  obtain ⟨T102, X102, e102, st102⟩ := getF X101 hx hZ hown (host := "") (Or.inl (own_w hw 30 rfl)) Via.refl e101 F_rows_r0 (g := (mkF m 118 #[oR r0, oR rw, oI 1, oI 1, oI 2, oU, oI 2, oD t7, oV, s9] [(.ref r0), (.int 2)])) rfl rfl (hb hby d6_118)
  obtain ⟨cl103, Ar103, qk103, Sz103, Nz103, Hh103, Gg103⟩ := id V_rw
  have hin104 : ¬ ((1 : Int32) < 0 ∨ cl103.slots.size ≤ ((1 : Int32)).toNatClampNeg) := inb_of Sz103 ⟨by decide, by decide⟩
  have hat104 : cl103.slots[((1 : Int32)).toNatClampNeg]? = some (.ref u1) := Has.at Hh103 hin104 rfl
  obtain ⟨cl105, Ar105, qk105, Sz105, Nz105, Hh105, Gg105⟩ := id V_u1
  have hin106 : ¬ ((1 : Int32) < 0 ∨ cl105.slots.size ≤ ((1 : Int32)).toNatClampNeg) := inb_of Sz105 ⟨by decide, by decide⟩
  have hat106 : cl105.slots[((1 : Int32)).toNatClampNeg]? = some (.double md) := Has.at Hh105 hin106 rfl
  obtain ⟨T107, X107, e107, st107⟩ := natS X102 hx hZ hown (own_w hw 75 rfl) (own_w hw 76 rfl) (own_w hw 77 rfl) (own_w hw 78 rfl) (by decide) e102 (W := 0) (fun q => Jvm.Free.Fl.Abs.absD_pays md q (by decide) (by decide)) (g := (mkF m 159 #[oR r0, oR rw, oI 1, oI 1, oI 2, oU, oI 2, oD t7, oV, s9] [(.double md)])) rfl (by rw [hml]; rfl) (argsL := [(.double md)]) (rest := []) (lenOf pd1 rfl) rfl (by show 2 * 0 + _ ≤ _; exact Nat.le_of_eq rfl) (hb hby d6_159) (by decide) (by decide) ⟨rfl, hT.1⟩ rfl
  obtain ⟨_, T108, L108, X108, hQ108, st108⟩ := own_cS X107 hx hZ hw hown (W := 0) (rms11 l Z a0 hw [] rw kw u0 u1 h0 n0 Z0 V_rw O_rw g_rw E_u0 E_u1) (by decide) (by decide) (by decide) 80 rfl 81 rfl 7 rfl 82 rfl e107 (g := (mkF m 174 #[oR r0, oR rw, oI 1, oI 1, oI 2, oU, oI 2, oD t7, oV, s9] [(.int 1), (.int 1), (.ref rw)])) rfl (by rw [hml]; rfl) (argsL := [(.ref rw), (.int 1), (.int 1)]) (rest := []) (lenOf pd2 rfl) rfl (Nat.le_of_eq rfl) (hb hby d6_174) rfl (cN := 3) rfl (by decide) (sN := 6) rfl (by decide)
  obtain ⟨rfl, Nq108, P108_0, P108_1⟩ := hQ108
  have N108 := Fr.app N0 Nq108
  have ZZ109 : n0 ≤ T108.heap.size := Nat.le_trans Z0 P108_0.1
  have KK110 : Keep h0 T108.heap [rw, ri, u0, u1, j0, j1] := Keep.trans (Keep.refl h0 [rw, ri, u0, u1, j0, j1]) P108_0 (allS (Or.inl (List.mem_of_getElem? (i := 0) rfl)) all0)
  have nq111 : r0 ≠ rw := (ne_exa (E_r0.keep P108_0) (E_rw.keep P108_0) (by decide))
  have Fc112 := (F_inverse_r0.keep P108_0 (ninS nq111 nin0))
  obtain ⟨T113, X113, e113, st113⟩ := getF X108 hx hZ hown (host := "") (Or.inl (own_w hw 45 rfl)) Via.refl rfl Fc112 (g := (mkF m 178 #[oR r0, oR rw, oI 1, oI 1, oI 2, oU, oI 2, oD t7, oV, s9] [(.ref r0)])) rfl rfl (hb hby d6_178)
  have Fc114 := (V_ri.keep P108_0 (ninS (Ne.symm ne_rw_ri) nin0))
  obtain ⟨_, T115, L115, X115, hQ115, st115⟩ := own_cS X113 hx hZ hw hown (W := 0) (rms11 l Z a0 hw [] ri kri j0 j1 T108.heap n0 ZZ109 Fc114 O_ri g_ri (E_j0.keep P108_0) (E_j1.keep P108_0)) (by decide) (by decide) (by decide) 80 rfl 81 rfl 7 rfl 82 rfl e113 (g := (mkF m 183 #[oR r0, oR rw, oI 1, oI 1, oI 2, oU, oI 2, oD t7, oV, s9] [(.int 1), (.int 1), (.ref ri)])) rfl (by rw [hml]; rfl) (argsL := [(.ref ri), (.int 1), (.int 1)]) (rest := []) (lenOf pd2 rfl) rfl (Nat.le_of_eq rfl) (hb hby d6_183) rfl (cN := 3) rfl (by decide) (sN := 6) rfl (by decide)
  obtain ⟨rfl, Nq115, P115_0, P115_1⟩ := hQ115
  have N115 := Fr.app N108 Nq115
  have ZZ116 : n0 ≤ T115.heap.size := Nat.le_trans ZZ109 P115_0.1
  have KK117 : Keep h0 T115.heap [rw, ri, u0, u1, j0, j1] := Keep.trans KK110 P115_0 (allS (Or.inl (List.mem_of_getElem? (i := 1) rfl)) all0)
  have Fc118 := (P108_1.keep P115_0 (ninS ne_rw_ri nin0))
  obtain ⟨cl119, Ar119, qk119, Sz119, Nz119, Hh119, Gg119⟩ := id Fc118
  have hin120 : ¬ ((1 : Int32) < 0 ∨ cl119.slots.size ≤ ((1 : Int32)).toNatClampNeg) := inb_of Sz119 ⟨by decide, by decide⟩
  have hat120 : cl119.slots[((1 : Int32)).toNatClampNeg]? = some (.ref u1) := Has.at Hh119 hin120 rfl
  have Fc121 := ((E_u1.keep P108_0).keep P115_0)
  have Fc122 := ((E_rw.keep P108_0).keep P115_0)
  have nq123 : u1 ≠ rw := (ne_exa Fc121 Fc122 (by decide))
  have Fc124 := ((E_ri.keep P108_0).keep P115_0)
  have nq125 : u1 ≠ ri := (ne_exa Fc121 Fc124 (by decide))
  have Fc126 := ((V_u1.keep P108_0 (ninS nq123 nin0)).keep P115_0 (ninS nq125 nin0))
  obtain ⟨cl127, Ar127, qk127, Sz127, Nz127, Hh127, Gg127⟩ := id Fc126
  have hin128 : ¬ ((1 : Int32) < 0 ∨ cl127.slots.size ≤ ((1 : Int32)).toNatClampNeg) := inb_of Sz127 ⟨by decide, by decide⟩
  have hat128 : cl127.slots[((1 : Int32)).toNatClampNeg]? = some (.double md) := Has.at Hh127 hin128 rfl
  have Fc129 := (E_r0.keep KK117)
  have nq130 : r0 ≠ ri := (ne_exa Fc129 Fc124 (by decide))
  have Fc131 := ((E_u0.keep P108_0).keep P115_0)
  have nq132 : r0 ≠ u0 := (ne_exa Fc129 Fc131 (by decide))
  have nq133 : r0 ≠ u1 := (ne_exa Fc129 Fc121 (by decide))
  have Fc134 := ((E_j0.keep P108_0).keep P115_0)
  have nq135 : r0 ≠ j0 := (ne_exa Fc129 Fc134 (by decide))
  have Fc136 := ((E_j1.keep P108_0).keep P115_0)
  have nq137 : r0 ≠ j1 := (ne_exa Fc129 Fc136 (by decide))
  have Fc138 := (F_rows_r0.keep KK117 (ninS nq111 (ninS nq130 (ninS nq132 (ninS nq133 (ninS nq135 (ninS nq137 nin0)))))))
  obtain ⟨T139, X139, e139, st139⟩ := getF X115 hx hZ hown (host := "") (Or.inl (own_w hw 30 rfl)) Via.refl rfl Fc138 (g := (mkF m 199 #[oR r0, oR rw, oI 1, oI 1, oD md, oV, oI 0, oD t7, oV, s9] [(.ref r0), (.int 0)])) rfl rfl (hb hby d6_199)
  have hin140 : ¬ ((1 : Int32) < 0 ∨ cl119.slots.size ≤ ((1 : Int32)).toNatClampNeg) := inb_of Sz119 ⟨by decide, by decide⟩
  have hat140 : cl119.slots[((1 : Int32)).toNatClampNeg]? = some (.ref u1) := Has.at Hh119 hin140 rfl
  have hin141 : ¬ ((0 : Int32) < 0 ∨ cl127.slots.size ≤ ((0 : Int32)).toNatClampNeg) := inb_of Sz127 ⟨by decide, by decide⟩
  have hat141 : cl127.slots[((0 : Int32)).toNatClampNeg]? = some (.double mc) := Has.at Hh127 hin141 rfl
  have hin142 : ¬ ((0 : Int32) < 0 ∨ cl127.slots.size ≤ ((0 : Int32)).toNatClampNeg) := inb_of Sz127 ⟨by decide, by decide⟩
  obtain ⟨T143, h143, X143, e143, W143, st143⟩ := stD X139 hx hZ e139 Ar127 (j := (0 : Int32)) hin142 (g := (mkF m 215 #[oR r0, oR rw, oI 1, oI 1, oD md, oV, oI 0, oD t7, oV, s9] [(.double (FP.ddiv mc md)), (.int 0), (.ref u1)])) rfl rfl (hb hby d6_215)
  have Va143 := Arv.set Ar127 qk127 Sz127 Nz127 Hh127 Gg127 rfl W143 0 rfl (Nat.le_of_ble_eq_true rfl)
  have N143 := Fr.snoc X143 N115 g_u1
  have ZZ144 : n0 ≤ h143.size := Nat.le_trans ZZ116 (Nat.le_of_eq W143.size.symm)
  have KK145 : Keep h0 h143 [rw, ri, u0, u1, j0, j1] := KK117.wr W143 (Or.inl (List.mem_of_getElem? (i := 3) rfl))
  have Fc146 := ((Fc112.keep P115_0 (ninS nq130 nin0)).other W143 (Or.inl nq133))
  obtain ⟨T147, X147, e147, st147⟩ := getF X143 hx hZ hown (host := "") (Or.inl (own_w hw 45 rfl)) Via.refl e143 Fc146 (g := (mkF m 217 #[oR r0, oR rw, oI 1, oI 1, oD md, oV, oI 0, oD t7, oV, s9] [(.ref r0)])) rfl rfl (hb hby d6_217)
  have Fc148 := (P115_1.other W143 (Ne.symm nq125))
  obtain ⟨cl149, Ar149, qk149, Sz149, Nz149, Hh149, Gg149⟩ := id Fc148
  have hin150 : ¬ ((1 : Int32) < 0 ∨ cl149.slots.size ≤ ((1 : Int32)).toNatClampNeg) := inb_of Sz149 ⟨by decide, by decide⟩
  have hat150 : cl149.slots[((1 : Int32)).toNatClampNeg]? = some (.ref j1) := Has.at Hh149 hin150 rfl
  have nq151 : j1 ≠ rw := (ne_exa (Fc136.wr W143) (Fc122.wr W143) (by decide))
  have nq152 : j1 ≠ ri := (ne_exa (Fc136.wr W143) (Fc124.wr W143) (by decide))
  have Fc153 := (((V_j1.keep P108_0 (ninS nq151 nin0)).keep P115_0 (ninS nq152 nin0)).other W143 (Ne.symm ne_u1_j1))
  obtain ⟨cl154, Ar154, qk154, Sz154, Nz154, Hh154, Gg154⟩ := id Fc153
  have hin155 : ¬ ((0 : Int32) < 0 ∨ cl154.slots.size ≤ ((0 : Int32)).toNatClampNeg) := inb_of Sz154 ⟨by decide, by decide⟩
  have hat155 : cl154.slots[((0 : Int32)).toNatClampNeg]? = some (.double y0) := Has.at Hh154 hin155 rfl
  have hin156 : ¬ ((0 : Int32) < 0 ∨ cl154.slots.size ≤ ((0 : Int32)).toNatClampNeg) := inb_of Sz154 ⟨by decide, by decide⟩
  obtain ⟨T157, h157, X157, e157, W157, st157⟩ := stD X147 hx hZ e147 Ar154 (j := (0 : Int32)) hin156 (g := (mkF m 229 #[oR r0, oR rw, oI 1, oI 1, oD md, oV, oI 0, oD t7, oV, s9] [(.double (FP.ddiv y0 md)), (.int 0), (.ref j1)])) rfl rfl (hb hby d6_229)
  have Va157 := Arv.set Ar154 qk154 Sz154 Nz154 Hh154 Gg154 rfl W157 0 rfl (Nat.le_of_ble_eq_true rfl)
  have N157 := Fr.snoc X157 N143 g_j1
  have ZZ158 : n0 ≤ h157.size := Nat.le_trans ZZ144 (Nat.le_of_eq W157.size.symm)
  have KK159 : Keep h0 h157 [rw, ri, u0, u1, j0, j1] := KK145.wr W157 (Or.inl (List.mem_of_getElem? (i := 5) rfl))
  have Fc160 := (F_rows_r0.keep KK159 (ninS nq111 (ninS nq130 (ninS nq132 (ninS nq133 (ninS nq135 (ninS nq137 nin0)))))))
  obtain ⟨T161, X161, e161, st161⟩ := getF X157 hx hZ hown (host := "") (Or.inl (own_w hw 30 rfl)) Via.refl e157 Fc160 (g := (mkF m 199 #[oR r0, oR rw, oI 1, oI 1, oD md, oV, oI 1, oD t7, oV, s9] [(.ref r0), (.int 1)])) rfl rfl (hb hby d6_199)
  have Fc162 := ((Fc118.other W143 (Ne.symm nq123)).other W157 (Ne.symm nq151))
  obtain ⟨cl163, Ar163, qk163, Sz163, Nz163, Hh163, Gg163⟩ := id Fc162
  have hin164 : ¬ ((1 : Int32) < 0 ∨ cl163.slots.size ≤ ((1 : Int32)).toNatClampNeg) := inb_of Sz163 ⟨by decide, by decide⟩
  have hat164 : cl163.slots[((1 : Int32)).toNatClampNeg]? = some (.ref u1) := Has.at Hh163 hin164 rfl
  have Fc165 := (Va143.other W157 ne_u1_j1)
  obtain ⟨cl166, Ar166, qk166, Sz166, Nz166, Hh166, Gg166⟩ := id Fc165
  have hin167 : ¬ ((1 : Int32) < 0 ∨ cl166.slots.size ≤ ((1 : Int32)).toNatClampNeg) := inb_of Sz166 ⟨by decide, by decide⟩
  have hat167 : cl166.slots[((1 : Int32)).toNatClampNeg]? = some (.double md) := Has.at Hh166 hin167 rfl
  have hin168 : ¬ ((1 : Int32) < 0 ∨ cl166.slots.size ≤ ((1 : Int32)).toNatClampNeg) := inb_of Sz166 ⟨by decide, by decide⟩
  obtain ⟨T169, h169, X169, e169, W169, st169⟩ := stD X161 hx hZ e161 Ar166 (j := (1 : Int32)) hin168 (g := (mkF m 215 #[oR r0, oR rw, oI 1, oI 1, oD md, oV, oI 1, oD t7, oV, s9] [(.double (FP.ddiv md md)), (.int 1), (.ref u1)])) rfl rfl (hb hby d6_215)
  have Va169 := Arv.set Ar166 qk166 Sz166 Nz166 Hh166 Gg166 rfl W169 1 rfl (Nat.le_of_ble_eq_true rfl)
  have N169 := Fr.snoc X169 N157 g_u1
  have ZZ170 : n0 ≤ h169.size := Nat.le_trans ZZ158 (Nat.le_of_eq W169.size.symm)
  have KK171 : Keep h0 h169 [rw, ri, u0, u1, j0, j1] := KK159.wr W169 (Or.inl (List.mem_of_getElem? (i := 3) rfl))
  have Fc172 := ((Fc146.other W157 (Or.inl nq137)).other W169 (Or.inl nq133))
  obtain ⟨T173, X173, e173, st173⟩ := getF X169 hx hZ hown (host := "") (Or.inl (own_w hw 45 rfl)) Via.refl e169 Fc172 (g := (mkF m 217 #[oR r0, oR rw, oI 1, oI 1, oD md, oV, oI 1, oD t7, oV, s9] [(.ref r0)])) rfl rfl (hb hby d6_217)
  have Fc174 := ((Fc148.other W157 (Ne.symm nq152)).other W169 (Ne.symm nq125))
  obtain ⟨cl175, Ar175, qk175, Sz175, Nz175, Hh175, Gg175⟩ := id Fc174
  have hin176 : ¬ ((1 : Int32) < 0 ∨ cl175.slots.size ≤ ((1 : Int32)).toNatClampNeg) := inb_of Sz175 ⟨by decide, by decide⟩
  have hat176 : cl175.slots[((1 : Int32)).toNatClampNeg]? = some (.ref j1) := Has.at Hh175 hin176 rfl
  have Fc177 := (Va157.other W169 (Ne.symm ne_u1_j1))
  obtain ⟨cl178, Ar178, qk178, Sz178, Nz178, Hh178, Gg178⟩ := id Fc177
  have hin179 : ¬ ((1 : Int32) < 0 ∨ cl178.slots.size ≤ ((1 : Int32)).toNatClampNeg) := inb_of Sz178 ⟨by decide, by decide⟩
  have hat179 : cl178.slots[((1 : Int32)).toNatClampNeg]? = some (.double y1) := Has.at Hh178 hin179 rfl
  have hin180 : ¬ ((1 : Int32) < 0 ∨ cl178.slots.size ≤ ((1 : Int32)).toNatClampNeg) := inb_of Sz178 ⟨by decide, by decide⟩
  obtain ⟨T181, h181, X181, e181, W181, st181⟩ := stD X173 hx hZ e173 Ar178 (j := (1 : Int32)) hin180 (g := (mkF m 229 #[oR r0, oR rw, oI 1, oI 1, oD md, oV, oI 1, oD t7, oV, s9] [(.double (FP.ddiv y1 md)), (.int 1), (.ref j1)])) rfl rfl (hb hby d6_229)
  have Va181 := Arv.set Ar178 qk178 Sz178 Nz178 Hh178 Gg178 rfl W181 1 rfl (Nat.le_of_ble_eq_true rfl)
  have N181 := Fr.snoc X181 N169 g_j1
  have ZZ182 : n0 ≤ h181.size := Nat.le_trans ZZ170 (Nat.le_of_eq W181.size.symm)
  have KK183 : Keep h0 h181 [rw, ri, u0, u1, j0, j1] := KK171.wr W181 (Or.inl (List.mem_of_getElem? (i := 5) rfl))
  have Fc184 := (F_rows_r0.keep KK183 (ninS nq111 (ninS nq130 (ninS nq132 (ninS nq133 (ninS nq135 (ninS nq137 nin0)))))))
  obtain ⟨T185, X185, e185, st185⟩ := getF X181 hx hZ hown (host := "") (Or.inl (own_w hw 30 rfl)) Via.refl e181 Fc184 (g := (mkF m 199 #[oR r0, oR rw, oI 1, oI 1, oD md, oV, oI 2, oD t7, oV, s9] [(.ref r0), (.int 2)])) rfl rfl (hb hby d6_199)
  obtain ⟨T186, X186, e186, st186⟩ := getF X185 hx hZ hown (host := "") (Or.inl (own_w hw 30 rfl)) Via.refl e185 Fc184 (g := (mkF m 242 #[oR r0, oR rw, oI 1, oI 1, oD md, oV, oI 0, oD t7, oV, s9] [(.ref r0), (.int 0)])) rfl rfl (hb hby d6_242)
  have Fc187 := ((Fc162.other W169 (Ne.symm nq123)).other W181 (Ne.symm nq151))
  obtain ⟨cl188, Ar188, qk188, Sz188, Nz188, Hh188, Gg188⟩ := id Fc187
  have hin189 : ¬ ((0 : Int32) < 0 ∨ cl188.slots.size ≤ ((0 : Int32)).toNatClampNeg) := inb_of Sz188 ⟨by decide, by decide⟩
  have hat189 : cl188.slots[((0 : Int32)).toNatClampNeg]? = some (.ref u0) := Has.at Hh188 hin189 rfl
  have Fc190 := ((((Fc131.wr W143).wr W157).wr W169).wr W181)
  have Fc191 := ((((Fc122.wr W143).wr W157).wr W169).wr W181)
  have nq192 : u0 ≠ rw := (ne_exa Fc190 Fc191 (by decide))
  have Fc193 := ((((Fc124.wr W143).wr W157).wr W169).wr W181)
  have nq194 : u0 ≠ ri := (ne_exa Fc190 Fc193 (by decide))
  have Fc195 := ((((((V_u0.keep P108_0 (ninS nq192 nin0)).keep P115_0 (ninS nq194 nin0)).other W143 ne_u0_u1).other W157 ne_u0_j1).other W169 ne_u0_u1).other W181 ne_u0_j1)
  obtain ⟨cl196, Ar196, qk196, Sz196, Nz196, Hh196, Gg196⟩ := id Fc195
  have hin197 : ¬ ((1 : Int32) < 0 ∨ cl196.slots.size ≤ ((1 : Int32)).toNatClampNeg) := inb_of Sz196 ⟨by decide, by decide⟩
  have hat197 : cl196.slots[((1 : Int32)).toNatClampNeg]? = some (.double mb) := Has.at Hh196 hin197 rfl
  have pre198 : ∀ t, Steps p.tables e below (T186.setTop (mkF m 266 #[oR r0, oR rw, oI 1, oI 1, oD md, oV, oI 0, oD mb, oV, s9] [(.int (cmpValue (FP.dcmp mb (0 : UInt64)) .l))])) t → Steps p.tables e below (s₁.setTop (mkF m 100 #[oR r0, oR rw, oI 1, oI kp, oD t4, oV, oI 2, oD t7, oV, s9] [])) t := by
    intro t kt
    show own_S p e below s₁ m 100 #[oR r0, oR rw, oI 1, oI kp, oD t4, oV, oI 2, oD t7, oV, s9] [] _
    refine XS.iloadN X0.here hx rfl (hb hby d6_100) rfl ?_
    refine XS.aloadN X0.here hx rfl (hb hby d6_101) rfl rfl ?_
    show own_S p e below s₁ m 102 _ [(.ref r0), (.int 1)] _
    refine st101 _ ?_
    show own_S p e below T101 m 105 _ [(.int 2), (.int 1)] _
    refine XS.icmpNo X101.here hx rfl (hb hby d6_105) rfl (tlt (by decide : (1 : Int32) < (2 : Int32))).2.1 ?_
    refine XS.iloadN X101.here hx rfl (hb hby d6_108) rfl ?_
    refine XS.istoreN X101.here hx rfl (hb hby d6_109) rfl (l' := #[oR r0, oR rw, oI 1, oI 1, oD t4, oV, oI 2, oD t7, oV, s9]) rfl ?_
    refine XS.iloadN X101.here hx rfl (hb hby d6_110) rfl ?_
    show own_S p e below T101 m 111 _ [(.int 1)] _
    refine XS.iconst X101.here hx rfl (hb hby d6_111) ?_
    show own_S p e below T101 m 112 _ [(.int 1), (.int 1)] _
    refine XS.iadd X101.here hx rfl (hb hby d6_112) rfl ?_
    show own_S p e below T101 m 113 _ [(.int ((1 : Int32) + (1 : Int32)))] _
    refine reI (by decide : ((1 : Int32) + (1 : Int32)) = (2 : Int32)) ?_
    show own_S p e below T101 m 113 _ [(.int 2)] _
    refine XS.istore X101.here hx rfl (hb hby d6_113) rfl (l' := #[oR r0, oR rw, oI 1, oI 1, oI 2, oU, oI 2, oD t7, oV, s9]) rfl ?_
    refine XS.iload X101.here hx rfl (hb hby d6_115) rfl ?_
    refine XS.aloadN X101.here hx rfl (hb hby d6_117) rfl rfl ?_
    show own_S p e below T101 m 118 _ [(.ref r0), (.int 2)] _
    refine st102 _ ?_
    show own_S p e below T102 m 121 _ [(.int 2), (.int 2)] _
    refine XS.icmpYes X102.here hx rfl (pc0 := 121) (pc' := 154) rfl (hb hby d6_121) rfl (flt (by decide : ¬ ((2 : Int32) < (2 : Int32)))).2.1 (by decide) (by decide) ?_
    refine XS.aloadN X102.here hx rfl (hb hby d6_154) rfl rfl ?_
    refine XS.iloadN X102.here hx rfl (hb hby d6_155) rfl ?_
    show own_S p e below T102 m 156 _ [(.int 1), (.ref rw)] _
    refine X102.aaload hx (j := (1 : Int32)) (v := (.ref u1)) (by rw [e102]; exact Ar103.1) (State.isArrayOf_alike hZ.alike Ar103.2.1) rfl Ar103.2.2 hin104 hat104 (g := (mkF m 156 #[oR r0, oR rw, oI 1, oI 1, oI 2, oU, oI 2, oD t7, oV, s9] [(.int 1), (.ref rw)])) rfl rfl (hb hby d6_156) _ ?_
    show own_S p e below T102 m 157 #[oR r0, oR rw, oI 1, oI 1, oI 2, oU, oI 2, oD t7, oV, s9] [(.ref u1)] _
    refine XS.iloadN X102.here hx rfl (hb hby d6_157) rfl ?_
    show own_S p e below T102 m 158 _ [(.int 1), (.ref u1)] _
    refine X102.daload hx (j := (1 : Int32)) (v := (.double md)) (by rw [e102]; exact Ar105.1) (State.isArrayOf_alike hZ.alike Ar105.2.1) Ar105.2.2 hin106 hat106 (g := (mkF m 158 #[oR r0, oR rw, oI 1, oI 1, oI 2, oU, oI 2, oD t7, oV, s9] [(.int 1), (.ref u1)])) rfl rfl (hb hby d6_158) _ ?_
    show own_S p e below T102 m 159 _ [(.double md)] _
    refine st107 _ ?_
    show own_S p e below T107 m 162 _ [(.double (md &&& 0x7fffffffffffffff))] _
    refine X107.ldc2DoubleC hx hown (mvT hZ (own_w hw 79 rfl)) (g := (mkF m 162 #[oR r0, oR rw, oI 1, oI 1, oI 2, oU, oI 2, oD t7, oV, s9] [(.double (md &&& 0x7fffffffffffffff))])) rfl (hb hby d6_162) _ ?_
    show own_S p e below T107 m 165 _ [(.double 4472406533629990549), (.double (md &&& 0x7fffffffffffffff))] _
    refine XS.dcmpS X107.here hx rfl (v := (cmpValue (FP.dcmp (md &&& 0x7fffffffffffffff) (4472406533629990549 : UInt64)) .g)) (hb hby d6_165) rfl rfl ?_
    show own_S p e below T107 m 166 _ [(.int (cmpValue (FP.dcmp (md &&& 0x7fffffffffffffff) (4472406533629990549 : UInt64)) .g))] _
    refine XS.ifYes X107.here hx rfl (pc0 := 166) (pc' := 171) rfl (hb hby d6_166) rfl ((if0 _ _).trans (flt (hT.2 : ¬ ((cmpValue (FP.dcmp (md &&& 0x7fffffffffffffff) (4472406533629990549 : UInt64)) .g) < (0 : Int32)))).2.1) (by decide) (by decide) ?_
    refine XS.aloadN X107.here hx rfl (hb hby d6_171) rfl rfl ?_
    refine XS.iloadN X107.here hx rfl (hb hby d6_172) rfl ?_
    refine XS.iloadN X107.here hx rfl (hb hby d6_173) rfl ?_
    show own_S p e below T107 m 174 _ [(.int 1), (.int 1), (.ref rw)] _
    refine st108.trans ?_
    show own_S p e below T108 m 177 _ [] _
    refine XS.aloadN X108.here hx rfl (hb hby d6_177) rfl rfl ?_
    show own_S p e below T108 m 178 _ [(.ref r0)] _
    refine st113 _ ?_
    show own_S p e below T113 m 181 _ [(.ref ri)] _
    refine XS.iloadN X113.here hx rfl (hb hby d6_181) rfl ?_
    refine XS.iloadN X113.here hx rfl (hb hby d6_182) rfl ?_
    show own_S p e below T113 m 183 #[oR r0, oR rw, oI 1, oI 1, oI 2, oU, oI 2, oD t7, oV, s9] [(.int 1), (.int 1), (.ref ri)] _
    refine st115.trans ?_
    show own_S p e below T115 m 186 _ [] _
    refine XS.aloadN X115.here hx rfl (hb hby d6_186) rfl rfl ?_
    refine XS.iloadN X115.here hx rfl (hb hby d6_187) rfl ?_
    show own_S p e below T115 m 188 _ [(.int 1), (.ref rw)] _
    refine X115.aaload hx (j := (1 : Int32)) (v := (.ref u1)) Ar119.1 (State.isArrayOf_alike hZ.alike Ar119.2.1) rfl Ar119.2.2 hin120 hat120 (g := (mkF m 188 #[oR r0, oR rw, oI 1, oI 1, oI 2, oU, oI 2, oD t7, oV, s9] [(.int 1), (.ref rw)])) rfl rfl (hb hby d6_188) _ ?_
    show own_S p e below T115 m 189 _ [(.ref u1)] _
    refine XS.iloadN X115.here hx rfl (hb hby d6_189) rfl ?_
    show own_S p e below T115 m 190 _ [(.int 1), (.ref u1)] _
    refine X115.daload hx (j := (1 : Int32)) (v := (.double md)) Ar127.1 (State.isArrayOf_alike hZ.alike Ar127.2.1) Ar127.2.2 hin128 hat128 (g := (mkF m 190 #[oR r0, oR rw, oI 1, oI 1, oI 2, oU, oI 2, oD t7, oV, s9] [(.int 1), (.ref u1)])) rfl rfl (hb hby d6_190) _ ?_
    show own_S p e below T115 m 191 _ [(.double md)] _
    refine XS.dstore X115.here hx rfl (hb hby d6_191) rfl (l' := #[oR r0, oR rw, oI 1, oI 1, oD md, oV, oI 2, oD t7, oV, s9]) rfl ?_
    refine XS.iconst X115.here hx rfl (hb hby d6_193) ?_
    refine XS.istore X115.here hx rfl (hb hby d6_194) rfl (l' := #[oR r0, oR rw, oI 1, oI 1, oD md, oV, oI 0, oD t7, oV, s9]) rfl ?_
    refine XS.iload X115.here hx rfl (hb hby d6_196) rfl ?_
    show own_S p e below T115 m 198 _ [(.int 0)] _
    refine XS.aloadN X115.here hx rfl (hb hby d6_198) rfl rfl ?_
    show own_S p e below T115 m 199 _ [(.ref r0), (.int 0)] _
    refine st139 _ ?_
    show own_S p e below T139 m 202 _ [(.int 2), (.int 0)] _
    refine XS.icmpNo X139.here hx rfl (hb hby d6_202) rfl (tlt (by decide : (0 : Int32) < (2 : Int32))).2.1 ?_
    refine XS.aloadN X139.here hx rfl (hb hby d6_205) rfl rfl ?_
    refine XS.iloadN X139.here hx rfl (hb hby d6_206) rfl ?_
    show own_S p e below T139 m 207 _ [(.int 1), (.ref rw)] _
    refine X139.aaload hx (j := (1 : Int32)) (v := (.ref u1)) (by rw [e139]; exact Ar119.1) (State.isArrayOf_alike hZ.alike Ar119.2.1) rfl Ar119.2.2 hin140 hat140 (g := (mkF m 207 #[oR r0, oR rw, oI 1, oI 1, oD md, oV, oI 0, oD t7, oV, s9] [(.int 1), (.ref rw)])) rfl rfl (hb hby d6_207) _ ?_
    show own_S p e below T139 m 208 #[oR r0, oR rw, oI 1, oI 1, oD md, oV, oI 0, oD t7, oV, s9] [(.ref u1)] _
    refine XS.iload X139.here hx rfl (hb hby d6_208) rfl ?_
    show own_S p e below T139 m 210 _ [(.int 0), (.ref u1)] _
    jvm_step X139.here [X139.here.top, hx, (hb hby d6_210), Value.category]
    show own_S p e below T139 m 211 #[oR r0, oR rw, oI 1, oI 1, oD md, oV, oI 0, oD t7, oV, s9] [(.int 0), (.ref u1), (.int 0), (.ref u1)] _
    refine X139.daload hx (j := (0 : Int32)) (v := (.double mc)) (by rw [e139]; exact Ar127.1) (State.isArrayOf_alike hZ.alike Ar127.2.1) Ar127.2.2 hin141 hat141 (g := (mkF m 211 #[oR r0, oR rw, oI 1, oI 1, oD md, oV, oI 0, oD t7, oV, s9] [(.int 0), (.ref u1), (.int 0), (.ref u1)])) rfl rfl (hb hby d6_211) _ ?_
    show own_S p e below T139 m 212 _ [(.double mc), (.int 0), (.ref u1)] _
    refine XS.dload X139.here hx rfl (hb hby d6_212) rfl ?_
    show own_S p e below T139 m 214 _ [(.double md), (.double mc), (.int 0), (.ref u1)] _
    refine XS.ddivS X139.here hx rfl (v := (FP.ddiv mc md)) (hb hby d6_214) rfl hK.1.1 rfl ?_
    show own_S p e below T139 m 215 _ [(.double (FP.ddiv mc md)), (.int 0), (.ref u1)] _
    refine st143 _ ?_
    show own_S p e below T143 m 216 _ [] _
    refine XS.aloadN X143.here hx rfl (hb hby d6_216) rfl rfl ?_
    show own_S p e below T143 m 217 _ [(.ref r0)] _
    refine st147 _ ?_
    show own_S p e below T147 m 220 _ [(.ref ri)] _
    refine XS.iloadN X147.here hx rfl (hb hby d6_220) rfl ?_
    show own_S p e below T147 m 221 #[oR r0, oR rw, oI 1, oI 1, oD md, oV, oI 0, oD t7, oV, s9] [(.int 1), (.ref ri)] _
    refine X147.aaload hx (j := (1 : Int32)) (v := (.ref j1)) (by rw [e147]; exact Ar149.1) (State.isArrayOf_alike hZ.alike Ar149.2.1) rfl Ar149.2.2 hin150 hat150 (g := (mkF m 221 #[oR r0, oR rw, oI 1, oI 1, oD md, oV, oI 0, oD t7, oV, s9] [(.int 1), (.ref ri)])) rfl rfl (hb hby d6_221) _ ?_
    show own_S p e below T147 m 222 _ [(.ref j1)] _
    refine XS.iload X147.here hx rfl (hb hby d6_222) rfl ?_
    show own_S p e below T147 m 224 _ [(.int 0), (.ref j1)] _
    jvm_step X147.here [X147.here.top, hx, (hb hby d6_224), Value.category]
    show own_S p e below T147 m 225 #[oR r0, oR rw, oI 1, oI 1, oD md, oV, oI 0, oD t7, oV, s9] [(.int 0), (.ref j1), (.int 0), (.ref j1)] _
    refine X147.daload hx (j := (0 : Int32)) (v := (.double y0)) (by rw [e147]; exact Ar154.1) (State.isArrayOf_alike hZ.alike Ar154.2.1) Ar154.2.2 hin155 hat155 (g := (mkF m 225 #[oR r0, oR rw, oI 1, oI 1, oD md, oV, oI 0, oD t7, oV, s9] [(.int 0), (.ref j1), (.int 0), (.ref j1)])) rfl rfl (hb hby d6_225) _ ?_
    show own_S p e below T147 m 226 _ [(.double y0), (.int 0), (.ref j1)] _
    refine XS.dload X147.here hx rfl (hb hby d6_226) rfl ?_
    show own_S p e below T147 m 228 _ [(.double md), (.double y0), (.int 0), (.ref j1)] _
    refine XS.ddivS X147.here hx rfl (v := (FP.ddiv y0 md)) (hb hby d6_228) rfl hK.1.2.1 rfl ?_
    show own_S p e below T147 m 229 _ [(.double (FP.ddiv y0 md)), (.int 0), (.ref j1)] _
    refine st157 _ ?_
    show own_S p e below T157 m 230 _ [] _
    refine XS.iinc X157.here hx rfl (hb hby d6_230) rfl (l' := #[oR r0, oR rw, oI 1, oI 1, oD md, oV, oI 1, oD t7, oV, s9]) rfl ?_
    refine XS.goto X157.here hx rfl (pc0 := 233) (pc' := 196) rfl (hb hby d6_233) (by decide) (by decide) ?_
    refine XS.iload X157.here hx rfl (hb hby d6_196) rfl ?_
    refine XS.aloadN X157.here hx rfl (hb hby d6_198) rfl rfl ?_
    show own_S p e below T157 m 199 _ [(.ref r0), (.int 1)] _
    refine st161 _ ?_
    show own_S p e below T161 m 202 _ [(.int 2), (.int 1)] _
    refine XS.icmpNo X161.here hx rfl (hb hby d6_202) rfl (tlt (by decide : (1 : Int32) < (2 : Int32))).2.1 ?_
    refine XS.aloadN X161.here hx rfl (hb hby d6_205) rfl rfl ?_
    refine XS.iloadN X161.here hx rfl (hb hby d6_206) rfl ?_
    show own_S p e below T161 m 207 #[oR r0, oR rw, oI 1, oI 1, oD md, oV, oI 1, oD t7, oV, s9] [(.int 1), (.ref rw)] _
    refine X161.aaload hx (j := (1 : Int32)) (v := (.ref u1)) (by rw [e161]; exact Ar163.1) (State.isArrayOf_alike hZ.alike Ar163.2.1) rfl Ar163.2.2 hin164 hat164 (g := (mkF m 207 #[oR r0, oR rw, oI 1, oI 1, oD md, oV, oI 1, oD t7, oV, s9] [(.int 1), (.ref rw)])) rfl rfl (hb hby d6_207) _ ?_
    show own_S p e below T161 m 208 _ [(.ref u1)] _
    refine XS.iload X161.here hx rfl (hb hby d6_208) rfl ?_
    show own_S p e below T161 m 210 _ [(.int 1), (.ref u1)] _
    jvm_step X161.here [X161.here.top, hx, (hb hby d6_210), Value.category]
    show own_S p e below T161 m 211 #[oR r0, oR rw, oI 1, oI 1, oD md, oV, oI 1, oD t7, oV, s9] [(.int 1), (.ref u1), (.int 1), (.ref u1)] _
    refine X161.daload hx (j := (1 : Int32)) (v := (.double md)) (by rw [e161]; exact Ar166.1) (State.isArrayOf_alike hZ.alike Ar166.2.1) Ar166.2.2 hin167 hat167 (g := (mkF m 211 #[oR r0, oR rw, oI 1, oI 1, oD md, oV, oI 1, oD t7, oV, s9] [(.int 1), (.ref u1), (.int 1), (.ref u1)])) rfl rfl (hb hby d6_211) _ ?_
    show own_S p e below T161 m 212 _ [(.double md), (.int 1), (.ref u1)] _
    refine XS.dload X161.here hx rfl (hb hby d6_212) rfl ?_
    show own_S p e below T161 m 214 _ [(.double md), (.double md), (.int 1), (.ref u1)] _
    refine XS.ddivS X161.here hx rfl (v := (FP.ddiv md md)) (hb hby d6_214) rfl hK.1.2.2.1 rfl ?_
    show own_S p e below T161 m 215 _ [(.double (FP.ddiv md md)), (.int 1), (.ref u1)] _
    refine st169 _ ?_
    show own_S p e below T169 m 216 _ [] _
    refine XS.aloadN X169.here hx rfl (hb hby d6_216) rfl rfl ?_
    show own_S p e below T169 m 217 _ [(.ref r0)] _
    refine st173 _ ?_
    show own_S p e below T173 m 220 _ [(.ref ri)] _
    refine XS.iloadN X173.here hx rfl (hb hby d6_220) rfl ?_
    show own_S p e below T173 m 221 #[oR r0, oR rw, oI 1, oI 1, oD md, oV, oI 1, oD t7, oV, s9] [(.int 1), (.ref ri)] _
    refine X173.aaload hx (j := (1 : Int32)) (v := (.ref j1)) (by rw [e173]; exact Ar175.1) (State.isArrayOf_alike hZ.alike Ar175.2.1) rfl Ar175.2.2 hin176 hat176 (g := (mkF m 221 #[oR r0, oR rw, oI 1, oI 1, oD md, oV, oI 1, oD t7, oV, s9] [(.int 1), (.ref ri)])) rfl rfl (hb hby d6_221) _ ?_
    show own_S p e below T173 m 222 _ [(.ref j1)] _
    refine XS.iload X173.here hx rfl (hb hby d6_222) rfl ?_
    show own_S p e below T173 m 224 _ [(.int 1), (.ref j1)] _
    jvm_step X173.here [X173.here.top, hx, (hb hby d6_224), Value.category]
    show own_S p e below T173 m 225 #[oR r0, oR rw, oI 1, oI 1, oD md, oV, oI 1, oD t7, oV, s9] [(.int 1), (.ref j1), (.int 1), (.ref j1)] _
    refine X173.daload hx (j := (1 : Int32)) (v := (.double y1)) (by rw [e173]; exact Ar178.1) (State.isArrayOf_alike hZ.alike Ar178.2.1) Ar178.2.2 hin179 hat179 (g := (mkF m 225 #[oR r0, oR rw, oI 1, oI 1, oD md, oV, oI 1, oD t7, oV, s9] [(.int 1), (.ref j1), (.int 1), (.ref j1)])) rfl rfl (hb hby d6_225) _ ?_
    show own_S p e below T173 m 226 _ [(.double y1), (.int 1), (.ref j1)] _
    refine XS.dload X173.here hx rfl (hb hby d6_226) rfl ?_
    show own_S p e below T173 m 228 _ [(.double md), (.double y1), (.int 1), (.ref j1)] _
    refine XS.ddivS X173.here hx rfl (v := (FP.ddiv y1 md)) (hb hby d6_228) rfl hK.1.2.2.2 rfl ?_
    show own_S p e below T173 m 229 _ [(.double (FP.ddiv y1 md)), (.int 1), (.ref j1)] _
    refine st181 _ ?_
    show own_S p e below T181 m 230 _ [] _
    refine XS.iinc X181.here hx rfl (hb hby d6_230) rfl (l' := #[oR r0, oR rw, oI 1, oI 1, oD md, oV, oI 2, oD t7, oV, s9]) rfl ?_
    refine XS.goto X181.here hx rfl (pc0 := 233) (pc' := 196) rfl (hb hby d6_233) (by decide) (by decide) ?_
    refine XS.iload X181.here hx rfl (hb hby d6_196) rfl ?_
    refine XS.aloadN X181.here hx rfl (hb hby d6_198) rfl rfl ?_
    show own_S p e below T181 m 199 _ [(.ref r0), (.int 2)] _
    refine st185 _ ?_
    show own_S p e below T185 m 202 _ [(.int 2), (.int 2)] _
    refine XS.icmpYes X185.here hx rfl (pc0 := 202) (pc' := 236) rfl (hb hby d6_202) rfl (flt (by decide : ¬ ((2 : Int32) < (2 : Int32)))).2.1 (by decide) (by decide) ?_
    refine XS.iconst X185.here hx rfl (hb hby d6_236) ?_
    refine XS.istore X185.here hx rfl (hb hby d6_237) rfl (l' := #[oR r0, oR rw, oI 1, oI 1, oD md, oV, oI 0, oD t7, oV, s9]) rfl ?_
    refine XS.iload X185.here hx rfl (hb hby d6_239) rfl ?_
    show own_S p e below T185 m 241 _ [(.int 0)] _
    refine XS.aloadN X185.here hx rfl (hb hby d6_241) rfl rfl ?_
    show own_S p e below T185 m 242 _ [(.ref r0), (.int 0)] _
    refine st186 _ ?_
    show own_S p e below T186 m 245 _ [(.int 2), (.int 0)] _
    refine XS.icmpNo X186.here hx rfl (hb hby d6_245) rfl (tlt (by decide : (0 : Int32) < (2 : Int32))).2.1 ?_
    refine XS.aloadN X186.here hx rfl (hb hby d6_248) rfl rfl ?_
    refine XS.iload X186.here hx rfl (hb hby d6_249) rfl ?_
    show own_S p e below T186 m 251 _ [(.int 0), (.ref rw)] _
    refine X186.aaload hx (j := (0 : Int32)) (v := (.ref u0)) (by rw [e186]; exact Ar188.1) (State.isArrayOf_alike hZ.alike Ar188.2.1) rfl Ar188.2.2 hin189 hat189 (g := (mkF m 251 #[oR r0, oR rw, oI 1, oI 1, oD md, oV, oI 0, oD t7, oV, s9] [(.int 0), (.ref rw)])) rfl rfl (hb hby d6_251) _ ?_
    show own_S p e below T186 m 252 #[oR r0, oR rw, oI 1, oI 1, oD md, oV, oI 0, oD t7, oV, s9] [(.ref u0)] _
    refine XS.iloadN X186.here hx rfl (hb hby d6_252) rfl ?_
    show own_S p e below T186 m 253 _ [(.int 1), (.ref u0)] _
    refine X186.daload hx (j := (1 : Int32)) (v := (.double mb)) (by rw [e186]; exact Ar196.1) (State.isArrayOf_alike hZ.alike Ar196.2.1) Ar196.2.2 hin197 hat197 (g := (mkF m 253 #[oR r0, oR rw, oI 1, oI 1, oD md, oV, oI 0, oD t7, oV, s9] [(.int 1), (.ref u0)])) rfl rfl (hb hby d6_253) _ ?_
    show own_S p e below T186 m 254 _ [(.double mb)] _
    refine XS.dstore X186.here hx rfl (hb hby d6_254) rfl (l' := #[oR r0, oR rw, oI 1, oI 1, oD md, oV, oI 0, oD mb, oV, s9]) rfl ?_
    refine XS.iload X186.here hx rfl (hb hby d6_256) rfl ?_
    refine XS.iloadN X186.here hx rfl (hb hby d6_258) rfl ?_
    refine XS.icmpNo X186.here hx rfl (hb hby d6_259) rfl (feq (by decide : ¬ ((0 : Int32) = (1 : Int32)))).1 ?_
    show own_S p e below T186 m 262 _ [] _
    refine XS.dload X186.here hx rfl (hb hby d6_262) rfl ?_
    refine XS.dconst0 X186.here hx rfl (v := 0) (hb hby d6_264) rfl ?_
    show own_S p e below T186 m 265 _ [(.double 0), (.double mb)] _
    refine XS.dcmpS X186.here hx rfl (v := (cmpValue (FP.dcmp mb (0 : UInt64)) .l)) (hb hby d6_265) rfl rfl ?_
    exact kt
  by_cases hz : (cmpValue (FP.dcmp mb (0 : UInt64)) .l) = (0 : Int32)
  · skip
    obtain ⟨T199, X199, e199, st199⟩ := getF X186 hx hZ hown (host := "") (Or.inl (own_w hw 30 rfl)) Via.refl e186 Fc184 (g := (mkF m 242 #[oR r0, oR rw, oI 1, oI 1, oD md, oV, oI 1, oD mb, oV, s9] [(.ref r0), (.int 1)])) rfl rfl (hb hby d6_242)
    have hin200 : ¬ ((1 : Int32) < 0 ∨ cl188.slots.size ≤ ((1 : Int32)).toNatClampNeg) := inb_of Sz188 ⟨by decide, by decide⟩
    have hat200 : cl188.slots[((1 : Int32)).toNatClampNeg]? = some (.ref u1) := Has.at Hh188 hin200 rfl
    have Fc201 := (Va169.other W181 ne_u1_j1)
    obtain ⟨cl202, Ar202, qk202, Sz202, Nz202, Hh202, Gg202⟩ := id Fc201
    have hin203 : ¬ ((1 : Int32) < 0 ∨ cl202.slots.size ≤ ((1 : Int32)).toNatClampNeg) := inb_of Sz202 ⟨by decide, by decide⟩
    have hat203 : cl202.slots[((1 : Int32)).toNatClampNeg]? = some (.double (FP.ddiv md md)) := Has.at Hh202 hin203 rfl
    obtain ⟨T204, X204, e204, st204⟩ := getF X199 hx hZ hown (host := "") (Or.inl (own_w hw 30 rfl)) Via.refl e199 Fc184 (g := (mkF m 242 #[oR r0, oR rw, oI 1, oI 1, oD md, oV, oI 2, oD (FP.ddiv md md), oV, s9] [(.ref r0), (.int 2)])) rfl rfl (hb hby d6_242)
    obtain ⟨T205, X205, e205, st205⟩ := getF X204 hx hZ hown (host := "") (Or.inl (own_w hw 30 rfl)) Via.refl e204 Fc184 (g := (mkF m 102 #[oR r0, oR rw, oI 2, oI 1, oD md, oV, oI 2, oD (FP.ddiv md md), oV, s9] [(.ref r0), (.int 2)])) rfl rfl (hb hby d6_102)
    have Fc206 := ((((Fc134.wr W143).wr W157).wr W169).wr W181)
    have nq207 : j0 ≠ rw := (ne_exa Fc206 Fc191 (by decide))
    have nq208 : j0 ≠ ri := (ne_exa Fc206 Fc193 (by decide))
    refine ⟨(own_el mb ma (FP.ddiv mc md)), (own_el mb mb (FP.ddiv md md)), (FP.ddiv mc md), (FP.ddiv md md), (own_el mb x0 (FP.ddiv y0 md)), (own_el mb x1 (FP.ddiv y1 md)), (FP.ddiv y0 md), (FP.ddiv y1 md), s9, _, _, X205, N181, (by rw [e205]; exact KK183), (by rw [e205]; exact (by rw [own_z2 hz]; exact Fc195)), (by rw [e205]; exact Fc201), (by rw [e205]; exact (by rw [own_z2 hz]; exact ((((((V_j0.keep P108_0 (ninS nq207 nin0)).keep P115_0 (ninS nq208 nin0)).other W143 (Ne.symm ne_u1_j0)).other W157 ne_j0_j1).other W169 (Ne.symm ne_u1_j0)).other W181 ne_j0_j1))), (by rw [e205]; exact Va181), own_rB_rfl, hs9, (by rw [e205]; exact Fc187), (by rw [e205]; exact (Fc174.other W181 (Ne.symm nq152))), fun t kt => ?_⟩
    refine pre198 _ ?_
    show own_S p e below T186 m 266 #[oR r0, oR rw, oI 1, oI 1, oD md, oV, oI 0, oD mb, oV, s9] [(.int (cmpValue (FP.dcmp mb (0 : UInt64)) .l))] _
    refine XS.ifYes X186.here hx rfl (pc0 := 266) (pc' := 331) rfl (hb hby d6_266) rfl ((if0 _ _).trans (teq (hz : (cmpValue (FP.dcmp mb (0 : UInt64)) .l) = (0 : Int32))).1) (by decide) (by decide) ?_
    refine XS.iinc X186.here hx rfl (hb hby d6_331) rfl (l' := #[oR r0, oR rw, oI 1, oI 1, oD md, oV, oI 1, oD mb, oV, s9]) rfl ?_
    refine XS.goto X186.here hx rfl (pc0 := 334) (pc' := 239) rfl (hb hby d6_334) (by decide) (by decide) ?_
    refine XS.iload X186.here hx rfl (hb hby d6_239) rfl ?_
    show own_S p e below T186 m 241 _ [(.int 1)] _
    refine XS.aloadN X186.here hx rfl (hb hby d6_241) rfl rfl ?_
    show own_S p e below T186 m 242 _ [(.ref r0), (.int 1)] _
    refine st199 _ ?_
    show own_S p e below T199 m 245 _ [(.int 2), (.int 1)] _
    refine XS.icmpNo X199.here hx rfl (hb hby d6_245) rfl (tlt (by decide : (1 : Int32) < (2 : Int32))).2.1 ?_
    refine XS.aloadN X199.here hx rfl (hb hby d6_248) rfl rfl ?_
    refine XS.iload X199.here hx rfl (hb hby d6_249) rfl ?_
    show own_S p e below T199 m 251 #[oR r0, oR rw, oI 1, oI 1, oD md, oV, oI 1, oD mb, oV, s9] [(.int 1), (.ref rw)] _
    refine X199.aaload hx (j := (1 : Int32)) (v := (.ref u1)) (by rw [e199]; exact Ar188.1) (State.isArrayOf_alike hZ.alike Ar188.2.1) rfl Ar188.2.2 hin200 hat200 (g := (mkF m 251 #[oR r0, oR rw, oI 1, oI 1, oD md, oV, oI 1, oD mb, oV, s9] [(.int 1), (.ref rw)])) rfl rfl (hb hby d6_251) _ ?_
    show own_S p e below T199 m 252 _ [(.ref u1)] _
    refine XS.iloadN X199.here hx rfl (hb hby d6_252) rfl ?_
    show own_S p e below T199 m 253 _ [(.int 1), (.ref u1)] _
    refine X199.daload hx (j := (1 : Int32)) (v := (.double (FP.ddiv md md))) (by rw [e199]; exact Ar202.1) (State.isArrayOf_alike hZ.alike Ar202.2.1) Ar202.2.2 hin203 hat203 (g := (mkF m 253 #[oR r0, oR rw, oI 1, oI 1, oD md, oV, oI 1, oD mb, oV, s9] [(.int 1), (.ref u1)])) rfl rfl (hb hby d6_253) _ ?_
    show own_S p e below T199 m 254 _ [(.double (FP.ddiv md md))] _
    refine XS.dstore X199.here hx rfl (hb hby d6_254) rfl (l' := #[oR r0, oR rw, oI 1, oI 1, oD md, oV, oI 1, oD (FP.ddiv md md), oV, s9]) rfl ?_
    refine XS.iload X199.here hx rfl (hb hby d6_256) rfl ?_
    refine XS.iloadN X199.here hx rfl (hb hby d6_258) rfl ?_
    refine XS.icmpYes X199.here hx rfl (pc0 := 259) (pc' := 331) rfl (hb hby d6_259) rfl (teq (by decide : (1 : Int32) = (1 : Int32))).1 (by decide) (by decide) ?_
    show own_S p e below T199 m 331 _ [] _
    refine XS.iinc X199.here hx rfl (hb hby d6_331) rfl (l' := #[oR r0, oR rw, oI 1, oI 1, oD md, oV, oI 2, oD (FP.ddiv md md), oV, s9]) rfl ?_
    refine XS.goto X199.here hx rfl (pc0 := 334) (pc' := 239) rfl (hb hby d6_334) (by decide) (by decide) ?_
    refine XS.iload X199.here hx rfl (hb hby d6_239) rfl ?_
    refine XS.aloadN X199.here hx rfl (hb hby d6_241) rfl rfl ?_
    show own_S p e below T199 m 242 _ [(.ref r0), (.int 2)] _
    refine st204 _ ?_
    show own_S p e below T204 m 245 _ [(.int 2), (.int 2)] _
    refine XS.icmpYes X204.here hx rfl (pc0 := 245) (pc' := 337) rfl (hb hby d6_245) rfl (flt (by decide : ¬ ((2 : Int32) < (2 : Int32)))).2.1 (by decide) (by decide) ?_
    refine XS.iinc X204.here hx rfl (hb hby d6_337) rfl (l' := #[oR r0, oR rw, oI 2, oI 1, oD md, oV, oI 2, oD (FP.ddiv md md), oV, s9]) rfl ?_
    refine XS.goto X204.here hx rfl (pc0 := 340) (pc' := 100) rfl (hb hby d6_340) (by decide) (by decide) ?_
    refine XS.iloadN X204.here hx rfl (hb hby d6_100) rfl ?_
    show own_S p e below T204 m 101 _ [(.int 2)] _
    refine XS.aloadN X204.here hx rfl (hb hby d6_101) rfl rfl ?_
    show own_S p e below T204 m 102 _ [(.ref r0), (.int 2)] _
    refine st205 _ ?_
    show own_S p e below T205 m 105 _ [(.int 2), (.int 2)] _
    refine XS.icmpYes X205.here hx rfl (pc0 := 105) (pc' := 343) rfl (hb hby d6_105) rfl (flt (by decide : ¬ ((2 : Int32) < (2 : Int32)))).2.1 (by decide) (by decide) ?_
    exact kt
  · skip
    obtain ⟨T209, X209, e209, st209⟩ := getF X186 hx hZ hown (host := "") (Or.inl (own_w hw 30 rfl)) Via.refl e186 Fc184 (g := (mkF m 275 #[oR r0, oR rw, oI 1, oI 1, oD md, oV, oI 0, oD mb, oV, oI 0] [(.ref r0), (.int 0)])) rfl rfl (hb hby d6_275)
    have hin210 : ¬ ((0 : Int32) < 0 ∨ cl188.slots.size ≤ ((0 : Int32)).toNatClampNeg) := inb_of Sz188 ⟨by decide, by decide⟩
    have hat210 : cl188.slots[((0 : Int32)).toNatClampNeg]? = some (.ref u0) := Has.at Hh188 hin210 rfl
    have hin211 : ¬ ((0 : Int32) < 0 ∨ cl196.slots.size ≤ ((0 : Int32)).toNatClampNeg) := inb_of Sz196 ⟨by decide, by decide⟩
    have hat211 : cl196.slots[((0 : Int32)).toNatClampNeg]? = some (.double ma) := Has.at Hh196 hin211 rfl
    have hin212 : ¬ ((1 : Int32) < 0 ∨ cl188.slots.size ≤ ((1 : Int32)).toNatClampNeg) := inb_of Sz188 ⟨by decide, by decide⟩
    have hat212 : cl188.slots[((1 : Int32)).toNatClampNeg]? = some (.ref u1) := Has.at Hh188 hin212 rfl
    have Fc213 := (Va169.other W181 ne_u1_j1)
    obtain ⟨cl214, Ar214, qk214, Sz214, Nz214, Hh214, Gg214⟩ := id Fc213
    have hin215 : ¬ ((0 : Int32) < 0 ∨ cl214.slots.size ≤ ((0 : Int32)).toNatClampNeg) := inb_of Sz214 ⟨by decide, by decide⟩
    have hat215 : cl214.slots[((0 : Int32)).toNatClampNeg]? = some (.double (FP.ddiv mc md)) := Has.at Hh214 hin215 rfl
    have hin216 : ¬ ((0 : Int32) < 0 ∨ cl196.slots.size ≤ ((0 : Int32)).toNatClampNeg) := inb_of Sz196 ⟨by decide, by decide⟩
    obtain ⟨T217, h217, X217, e217, W217, st217⟩ := stD X209 hx hZ e209 Ar196 (j := (0 : Int32)) hin216 (g := (mkF m 299 #[oR r0, oR rw, oI 1, oI 1, oD md, oV, oI 0, oD mb, oV, oI 0] [(.double (FP.dsub ma (FP.dmul mb (FP.ddiv mc md)))), (.int 0), (.ref u0)])) rfl rfl (hb hby d6_299)
    have Va217 := Arv.set Ar196 qk196 Sz196 Nz196 Hh196 Gg196 rfl W217 0 rfl (Nat.le_of_ble_eq_true rfl)
    have N217 := Fr.snoc X217 N181 g_u0
    have ZZ218 : n0 ≤ h217.size := Nat.le_trans ZZ182 (Nat.le_of_eq W217.size.symm)
    have KK219 : Keep h0 h217 [rw, ri, u0, u1, j0, j1] := KK183.wr W217 (Or.inl (List.mem_of_getElem? (i := 2) rfl))
    have Fc220 := ((Fc172.other W181 (Or.inl nq137)).other W217 (Or.inl nq132))
    obtain ⟨T221, X221, e221, st221⟩ := getF X217 hx hZ hown (host := "") (Or.inl (own_w hw 45 rfl)) Via.refl e217 Fc220 (g := (mkF m 301 #[oR r0, oR rw, oI 1, oI 1, oD md, oV, oI 0, oD mb, oV, oI 0] [(.ref r0)])) rfl rfl (hb hby d6_301)
    have Fc222 := ((Fc174.other W181 (Ne.symm nq152)).other W217 (Ne.symm nq194))
    obtain ⟨cl223, Ar223, qk223, Sz223, Nz223, Hh223, Gg223⟩ := id Fc222
    have hin224 : ¬ ((0 : Int32) < 0 ∨ cl223.slots.size ≤ ((0 : Int32)).toNatClampNeg) := inb_of Sz223 ⟨by decide, by decide⟩
    have hat224 : cl223.slots[((0 : Int32)).toNatClampNeg]? = some (.ref j0) := Has.at Hh223 hin224 rfl
    have Fc225 := (((((Fc134.wr W143).wr W157).wr W169).wr W181).wr W217)
    have nq226 : j0 ≠ rw := (ne_exa Fc225 (Fc191.wr W217) (by decide))
    have nq227 : j0 ≠ ri := (ne_exa Fc225 (Fc193.wr W217) (by decide))
    have Fc228 := (((((((V_j0.keep P108_0 (ninS nq226 nin0)).keep P115_0 (ninS nq227 nin0)).other W143 (Ne.symm ne_u1_j0)).other W157 ne_j0_j1).other W169 (Ne.symm ne_u1_j0)).other W181 ne_j0_j1).other W217 (Ne.symm ne_u0_j0))
    obtain ⟨cl229, Ar229, qk229, Sz229, Nz229, Hh229, Gg229⟩ := id Fc228
    have hin230 : ¬ ((0 : Int32) < 0 ∨ cl229.slots.size ≤ ((0 : Int32)).toNatClampNeg) := inb_of Sz229 ⟨by decide, by decide⟩
    have hat230 : cl229.slots[((0 : Int32)).toNatClampNeg]? = some (.double x0) := Has.at Hh229 hin230 rfl
    obtain ⟨T231, X231, e231, st231⟩ := getF X221 hx hZ hown (host := "") (Or.inl (own_w hw 45 rfl)) Via.refl e221 Fc220 (g := (mkF m 314 #[oR r0, oR rw, oI 1, oI 1, oD md, oV, oI 0, oD mb, oV, oI 0] [(.ref r0), (.double mb), (.double x0), (.int 0), (.ref j0)])) rfl rfl (hb hby d6_314)
    have hin232 : ¬ ((1 : Int32) < 0 ∨ cl223.slots.size ≤ ((1 : Int32)).toNatClampNeg) := inb_of Sz223 ⟨by decide, by decide⟩
    have hat232 : cl223.slots[((1 : Int32)).toNatClampNeg]? = some (.ref j1) := Has.at Hh223 hin232 rfl
    have Fc233 := (Va181.other W217 (Ne.symm ne_u0_j1))
    obtain ⟨cl234, Ar234, qk234, Sz234, Nz234, Hh234, Gg234⟩ := id Fc233
    have hin235 : ¬ ((0 : Int32) < 0 ∨ cl234.slots.size ≤ ((0 : Int32)).toNatClampNeg) := inb_of Sz234 ⟨by decide, by decide⟩
    have hat235 : cl234.slots[((0 : Int32)).toNatClampNeg]? = some (.double (FP.ddiv y0 md)) := Has.at Hh234 hin235 rfl
    have hin236 : ¬ ((0 : Int32) < 0 ∨ cl229.slots.size ≤ ((0 : Int32)).toNatClampNeg) := inb_of Sz229 ⟨by decide, by decide⟩
    obtain ⟨T237, h237, X237, e237, W237, st237⟩ := stD X231 hx hZ e231 Ar229 (j := (0 : Int32)) hin236 (g := (mkF m 324 #[oR r0, oR rw, oI 1, oI 1, oD md, oV, oI 0, oD mb, oV, oI 0] [(.double (FP.dsub x0 (FP.dmul mb (FP.ddiv y0 md)))), (.int 0), (.ref j0)])) rfl rfl (hb hby d6_324)
    have Va237 := Arv.set Ar229 qk229 Sz229 Nz229 Hh229 Gg229 rfl W237 0 rfl (Nat.le_of_ble_eq_true rfl)
    have N237 := Fr.snoc X237 N217 g_j0
    have ZZ238 : n0 ≤ h237.size := Nat.le_trans ZZ218 (Nat.le_of_eq W237.size.symm)
    have KK239 : Keep h0 h237 [rw, ri, u0, u1, j0, j1] := KK219.wr W237 (Or.inl (List.mem_of_getElem? (i := 4) rfl))
    have Fc240 := (F_rows_r0.keep KK239 (ninS nq111 (ninS nq130 (ninS nq132 (ninS nq133 (ninS nq135 (ninS nq137 nin0)))))))
    obtain ⟨T241, X241, e241, st241⟩ := getF X237 hx hZ hown (host := "") (Or.inl (own_w hw 30 rfl)) Via.refl e237 Fc240 (g := (mkF m 275 #[oR r0, oR rw, oI 1, oI 1, oD md, oV, oI 0, oD mb, oV, oI 1] [(.ref r0), (.int 1)])) rfl rfl (hb hby d6_275)
    have Fc242 := ((Fc187.other W217 (Ne.symm nq192)).other W237 (Ne.symm nq226))
    obtain ⟨cl243, Ar243, qk243, Sz243, Nz243, Hh243, Gg243⟩ := id Fc242
    have hin244 : ¬ ((0 : Int32) < 0 ∨ cl243.slots.size ≤ ((0 : Int32)).toNatClampNeg) := inb_of Sz243 ⟨by decide, by decide⟩
    have hat244 : cl243.slots[((0 : Int32)).toNatClampNeg]? = some (.ref u0) := Has.at Hh243 hin244 rfl
    have Fc245 := (Va217.other W237 ne_u0_j0)
    obtain ⟨cl246, Ar246, qk246, Sz246, Nz246, Hh246, Gg246⟩ := id Fc245
    have hin247 : ¬ ((1 : Int32) < 0 ∨ cl246.slots.size ≤ ((1 : Int32)).toNatClampNeg) := inb_of Sz246 ⟨by decide, by decide⟩
    have hat247 : cl246.slots[((1 : Int32)).toNatClampNeg]? = some (.double mb) := Has.at Hh246 hin247 rfl
    have hin248 : ¬ ((1 : Int32) < 0 ∨ cl243.slots.size ≤ ((1 : Int32)).toNatClampNeg) := inb_of Sz243 ⟨by decide, by decide⟩
    have hat248 : cl243.slots[((1 : Int32)).toNatClampNeg]? = some (.ref u1) := Has.at Hh243 hin248 rfl
    have Fc249 := ((Fc213.other W217 (Ne.symm ne_u0_u1)).other W237 ne_u1_j0)
    obtain ⟨cl250, Ar250, qk250, Sz250, Nz250, Hh250, Gg250⟩ := id Fc249
    have hin251 : ¬ ((1 : Int32) < 0 ∨ cl250.slots.size ≤ ((1 : Int32)).toNatClampNeg) := inb_of Sz250 ⟨by decide, by decide⟩
    have hat251 : cl250.slots[((1 : Int32)).toNatClampNeg]? = some (.double (FP.ddiv md md)) := Has.at Hh250 hin251 rfl
    have hin252 : ¬ ((1 : Int32) < 0 ∨ cl246.slots.size ≤ ((1 : Int32)).toNatClampNeg) := inb_of Sz246 ⟨by decide, by decide⟩
    obtain ⟨T253, h253, X253, e253, W253, st253⟩ := stD X241 hx hZ e241 Ar246 (j := (1 : Int32)) hin252 (g := (mkF m 299 #[oR r0, oR rw, oI 1, oI 1, oD md, oV, oI 0, oD mb, oV, oI 1] [(.double (FP.dsub mb (FP.dmul mb (FP.ddiv md md)))), (.int 1), (.ref u0)])) rfl rfl (hb hby d6_299)
    have Va253 := Arv.set Ar246 qk246 Sz246 Nz246 Hh246 Gg246 rfl W253 1 rfl (Nat.le_of_ble_eq_true rfl)
    have N253 := Fr.snoc X253 N237 g_u0
    have ZZ254 : n0 ≤ h253.size := Nat.le_trans ZZ238 (Nat.le_of_eq W253.size.symm)
    have KK255 : Keep h0 h253 [rw, ri, u0, u1, j0, j1] := KK239.wr W253 (Or.inl (List.mem_of_getElem? (i := 2) rfl))
    have Fc256 := ((Fc220.other W237 (Or.inl nq135)).other W253 (Or.inl nq132))
    obtain ⟨T257, X257, e257, st257⟩ := getF X253 hx hZ hown (host := "") (Or.inl (own_w hw 45 rfl)) Via.refl e253 Fc256 (g := (mkF m 301 #[oR r0, oR rw, oI 1, oI 1, oD md, oV, oI 0, oD mb, oV, oI 1] [(.ref r0)])) rfl rfl (hb hby d6_301)
    have Fc258 := ((Fc222.other W237 (Ne.symm nq227)).other W253 (Ne.symm nq194))
    obtain ⟨cl259, Ar259, qk259, Sz259, Nz259, Hh259, Gg259⟩ := id Fc258
    have hin260 : ¬ ((0 : Int32) < 0 ∨ cl259.slots.size ≤ ((0 : Int32)).toNatClampNeg) := inb_of Sz259 ⟨by decide, by decide⟩
    have hat260 : cl259.slots[((0 : Int32)).toNatClampNeg]? = some (.ref j0) := Has.at Hh259 hin260 rfl
    have Fc261 := (Va237.other W253 (Ne.symm ne_u0_j0))
    obtain ⟨cl262, Ar262, qk262, Sz262, Nz262, Hh262, Gg262⟩ := id Fc261
    have hin263 : ¬ ((1 : Int32) < 0 ∨ cl262.slots.size ≤ ((1 : Int32)).toNatClampNeg) := inb_of Sz262 ⟨by decide, by decide⟩
    have hat263 : cl262.slots[((1 : Int32)).toNatClampNeg]? = some (.double x1) := Has.at Hh262 hin263 rfl
    obtain ⟨T264, X264, e264, st264⟩ := getF X257 hx hZ hown (host := "") (Or.inl (own_w hw 45 rfl)) Via.refl e257 Fc256 (g := (mkF m 314 #[oR r0, oR rw, oI 1, oI 1, oD md, oV, oI 0, oD mb, oV, oI 1] [(.ref r0), (.double mb), (.double x1), (.int 1), (.ref j0)])) rfl rfl (hb hby d6_314)
    have hin265 : ¬ ((1 : Int32) < 0 ∨ cl259.slots.size ≤ ((1 : Int32)).toNatClampNeg) := inb_of Sz259 ⟨by decide, by decide⟩
    have hat265 : cl259.slots[((1 : Int32)).toNatClampNeg]? = some (.ref j1) := Has.at Hh259 hin265 rfl
    have Fc266 := ((Fc233.other W237 (Ne.symm ne_j0_j1)).other W253 (Ne.symm ne_u0_j1))
    obtain ⟨cl267, Ar267, qk267, Sz267, Nz267, Hh267, Gg267⟩ := id Fc266
    have hin268 : ¬ ((1 : Int32) < 0 ∨ cl267.slots.size ≤ ((1 : Int32)).toNatClampNeg) := inb_of Sz267 ⟨by decide, by decide⟩
    have hat268 : cl267.slots[((1 : Int32)).toNatClampNeg]? = some (.double (FP.ddiv y1 md)) := Has.at Hh267 hin268 rfl
    have hin269 : ¬ ((1 : Int32) < 0 ∨ cl262.slots.size ≤ ((1 : Int32)).toNatClampNeg) := inb_of Sz262 ⟨by decide, by decide⟩
    obtain ⟨T270, h270, X270, e270, W270, st270⟩ := stD X264 hx hZ e264 Ar262 (j := (1 : Int32)) hin269 (g := (mkF m 324 #[oR r0, oR rw, oI 1, oI 1, oD md, oV, oI 0, oD mb, oV, oI 1] [(.double (FP.dsub x1 (FP.dmul mb (FP.ddiv y1 md)))), (.int 1), (.ref j0)])) rfl rfl (hb hby d6_324)
    have Va270 := Arv.set Ar262 qk262 Sz262 Nz262 Hh262 Gg262 rfl W270 1 rfl (Nat.le_of_ble_eq_true rfl)
    have N270 := Fr.snoc X270 N253 g_j0
    have ZZ271 : n0 ≤ h270.size := Nat.le_trans ZZ254 (Nat.le_of_eq W270.size.symm)
    have KK272 : Keep h0 h270 [rw, ri, u0, u1, j0, j1] := KK255.wr W270 (Or.inl (List.mem_of_getElem? (i := 4) rfl))
    have Fc273 := (F_rows_r0.keep KK272 (ninS nq111 (ninS nq130 (ninS nq132 (ninS nq133 (ninS nq135 (ninS nq137 nin0)))))))
    obtain ⟨T274, X274, e274, st274⟩ := getF X270 hx hZ hown (host := "") (Or.inl (own_w hw 30 rfl)) Via.refl e270 Fc273 (g := (mkF m 275 #[oR r0, oR rw, oI 1, oI 1, oD md, oV, oI 0, oD mb, oV, oI 2] [(.ref r0), (.int 2)])) rfl rfl (hb hby d6_275)
    obtain ⟨T275, X275, e275, st275⟩ := getF X274 hx hZ hown (host := "") (Or.inl (own_w hw 30 rfl)) Via.refl e274 Fc273 (g := (mkF m 242 #[oR r0, oR rw, oI 1, oI 1, oD md, oV, oI 1, oD mb, oV, oI 2] [(.ref r0), (.int 1)])) rfl rfl (hb hby d6_242)
    have Fc276 := ((Fc242.other W253 (Ne.symm nq192)).other W270 (Ne.symm nq226))
    obtain ⟨cl277, Ar277, qk277, Sz277, Nz277, Hh277, Gg277⟩ := id Fc276
    have hin278 : ¬ ((1 : Int32) < 0 ∨ cl277.slots.size ≤ ((1 : Int32)).toNatClampNeg) := inb_of Sz277 ⟨by decide, by decide⟩
    have hat278 : cl277.slots[((1 : Int32)).toNatClampNeg]? = some (.ref u1) := Has.at Hh277 hin278 rfl
    have Fc279 := ((Fc249.other W253 (Ne.symm ne_u0_u1)).other W270 ne_u1_j0)
    obtain ⟨cl280, Ar280, qk280, Sz280, Nz280, Hh280, Gg280⟩ := id Fc279
    have hin281 : ¬ ((1 : Int32) < 0 ∨ cl280.slots.size ≤ ((1 : Int32)).toNatClampNeg) := inb_of Sz280 ⟨by decide, by decide⟩
    have hat281 : cl280.slots[((1 : Int32)).toNatClampNeg]? = some (.double (FP.ddiv md md)) := Has.at Hh280 hin281 rfl
    obtain ⟨T282, X282, e282, st282⟩ := getF X275 hx hZ hown (host := "") (Or.inl (own_w hw 30 rfl)) Via.refl e275 Fc273 (g := (mkF m 242 #[oR r0, oR rw, oI 1, oI 1, oD md, oV, oI 2, oD (FP.ddiv md md), oV, oI 2] [(.ref r0), (.int 2)])) rfl rfl (hb hby d6_242)
    obtain ⟨T283, X283, e283, st283⟩ := getF X282 hx hZ hown (host := "") (Or.inl (own_w hw 30 rfl)) Via.refl e282 Fc273 (g := (mkF m 102 #[oR r0, oR rw, oI 2, oI 1, oD md, oV, oI 2, oD (FP.ddiv md md), oV, oI 2] [(.ref r0), (.int 2)])) rfl rfl (hb hby d6_102)
    refine ⟨(own_el mb ma (FP.ddiv mc md)), (own_el mb mb (FP.ddiv md md)), (FP.ddiv mc md), (FP.ddiv md md), (own_el mb x0 (FP.ddiv y0 md)), (own_el mb x1 (FP.ddiv y1 md)), (FP.ddiv y0 md), (FP.ddiv y1 md), (.val (.int 2)), _, _, X283, N270, (by rw [e283]; exact KK272), (by rw [e283]; exact (by rw [own_n2 hz]; exact (Va253.other W270 ne_u0_j0))), (by rw [e283]; exact Fc279), (by rw [e283]; exact (by rw [own_n2 hz]; exact Va270)), (by rw [e283]; exact (Fc266.other W270 (Ne.symm ne_j0_j1))), own_rB_rfl, (One.val rfl), (by rw [e283]; exact Fc276), (by rw [e283]; exact (Fc258.other W270 (Ne.symm nq227))), fun t kt => ?_⟩
    refine pre198 _ ?_
    show own_S p e below T186 m 266 #[oR r0, oR rw, oI 1, oI 1, oD md, oV, oI 0, oD mb, oV, s9] [(.int (cmpValue (FP.dcmp mb (0 : UInt64)) .l))] _
    refine XS.ifNo X186.here hx rfl (hb hby d6_266) rfl ((if0 _ _).trans (feq (hz : ¬ ((cmpValue (FP.dcmp mb (0 : UInt64)) .l) = (0 : Int32)))).1) ?_
    refine XS.iconst X186.here hx rfl (hb hby d6_269) ?_
    refine XS.istore X186.here hx rfl (hb hby d6_270) rfl (l' := #[oR r0, oR rw, oI 1, oI 1, oD md, oV, oI 0, oD mb, oV, oI 0]) (XS.store1 rfl hs9 rfl) ?_
    refine XS.iload X186.here hx rfl (hb hby d6_272) rfl ?_
    show own_S p e below T186 m 274 _ [(.int 0)] _
    refine XS.aloadN X186.here hx rfl (hb hby d6_274) rfl rfl ?_
    show own_S p e below T186 m 275 _ [(.ref r0), (.int 0)] _
    refine st209 _ ?_
    show own_S p e below T209 m 278 _ [(.int 2), (.int 0)] _
    refine XS.icmpNo X209.here hx rfl (hb hby d6_278) rfl (tlt (by decide : (0 : Int32) < (2 : Int32))).2.1 ?_
    refine XS.aloadN X209.here hx rfl (hb hby d6_281) rfl rfl ?_
    refine XS.iload X209.here hx rfl (hb hby d6_282) rfl ?_
    show own_S p e below T209 m 284 _ [(.int 0), (.ref rw)] _
    refine X209.aaload hx (j := (0 : Int32)) (v := (.ref u0)) (by rw [e209]; exact Ar188.1) (State.isArrayOf_alike hZ.alike Ar188.2.1) rfl Ar188.2.2 hin210 hat210 (g := (mkF m 284 #[oR r0, oR rw, oI 1, oI 1, oD md, oV, oI 0, oD mb, oV, oI 0] [(.int 0), (.ref rw)])) rfl rfl (hb hby d6_284) _ ?_
    show own_S p e below T209 m 285 #[oR r0, oR rw, oI 1, oI 1, oD md, oV, oI 0, oD mb, oV, oI 0] [(.ref u0)] _
    refine XS.iload X209.here hx rfl (hb hby d6_285) rfl ?_
    show own_S p e below T209 m 287 _ [(.int 0), (.ref u0)] _
    jvm_step X209.here [X209.here.top, hx, (hb hby d6_287), Value.category]
    show own_S p e below T209 m 288 #[oR r0, oR rw, oI 1, oI 1, oD md, oV, oI 0, oD mb, oV, oI 0] [(.int 0), (.ref u0), (.int 0), (.ref u0)] _
    refine X209.daload hx (j := (0 : Int32)) (v := (.double ma)) (by rw [e209]; exact Ar196.1) (State.isArrayOf_alike hZ.alike Ar196.2.1) Ar196.2.2 hin211 hat211 (g := (mkF m 288 #[oR r0, oR rw, oI 1, oI 1, oD md, oV, oI 0, oD mb, oV, oI 0] [(.int 0), (.ref u0), (.int 0), (.ref u0)])) rfl rfl (hb hby d6_288) _ ?_
    show own_S p e below T209 m 289 _ [(.double ma), (.int 0), (.ref u0)] _
    refine XS.dload X209.here hx rfl (hb hby d6_289) rfl ?_
    refine XS.aloadN X209.here hx rfl (hb hby d6_291) rfl rfl ?_
    refine XS.iloadN X209.here hx rfl (hb hby d6_292) rfl ?_
    show own_S p e below T209 m 293 _ [(.int 1), (.ref rw), (.double mb), (.double ma), (.int 0), (.ref u0)] _
    refine X209.aaload hx (j := (1 : Int32)) (v := (.ref u1)) (by rw [e209]; exact Ar188.1) (State.isArrayOf_alike hZ.alike Ar188.2.1) rfl Ar188.2.2 hin212 hat212 (g := (mkF m 293 #[oR r0, oR rw, oI 1, oI 1, oD md, oV, oI 0, oD mb, oV, oI 0] [(.int 1), (.ref rw), (.double mb), (.double ma), (.int 0), (.ref u0)])) rfl rfl (hb hby d6_293) _ ?_
    show own_S p e below T209 m 294 _ [(.ref u1), (.double mb), (.double ma), (.int 0), (.ref u0)] _
    refine XS.iload X209.here hx rfl (hb hby d6_294) rfl ?_
    show own_S p e below T209 m 296 _ [(.int 0), (.ref u1), (.double mb), (.double ma), (.int 0), (.ref u0)] _
    refine X209.daload hx (j := (0 : Int32)) (v := (.double (FP.ddiv mc md))) (by rw [e209]; exact Ar214.1) (State.isArrayOf_alike hZ.alike Ar214.2.1) Ar214.2.2 hin215 hat215 (g := (mkF m 296 #[oR r0, oR rw, oI 1, oI 1, oD md, oV, oI 0, oD mb, oV, oI 0] [(.int 0), (.ref u1), (.double mb), (.double ma), (.int 0), (.ref u0)])) rfl rfl (hb hby d6_296) _ ?_
    show own_S p e below T209 m 297 #[oR r0, oR rw, oI 1, oI 1, oD md, oV, oI 0, oD mb, oV, oI 0] [(.double (FP.ddiv mc md)), (.double mb), (.double ma), (.int 0), (.ref u0)] _
    refine XS.dmulS X209.here hx rfl (v := (FP.dmul mb (FP.ddiv mc md))) (hb hby d6_297) rfl (hK.2 hz).1.1 rfl ?_
    show own_S p e below T209 m 298 _ [(.double (FP.dmul mb (FP.ddiv mc md))), (.double ma), (.int 0), (.ref u0)] _
    refine XS.dsubS X209.here hx rfl (v := (FP.dsub ma (FP.dmul mb (FP.ddiv mc md)))) (hb hby d6_298) rfl (hK.2 hz).1.2 rfl ?_
    show own_S p e below T209 m 299 _ [(.double (FP.dsub ma (FP.dmul mb (FP.ddiv mc md)))), (.int 0), (.ref u0)] _
    refine st217 _ ?_
    show own_S p e below T217 m 300 _ [] _
    refine XS.aloadN X217.here hx rfl (hb hby d6_300) rfl rfl ?_
    show own_S p e below T217 m 301 _ [(.ref r0)] _
    refine st221 _ ?_
    show own_S p e below T221 m 304 _ [(.ref ri)] _
    refine XS.iload X221.here hx rfl (hb hby d6_304) rfl ?_
    show own_S p e below T221 m 306 _ [(.int 0), (.ref ri)] _
    refine X221.aaload hx (j := (0 : Int32)) (v := (.ref j0)) (by rw [e221]; exact Ar223.1) (State.isArrayOf_alike hZ.alike Ar223.2.1) rfl Ar223.2.2 hin224 hat224 (g := (mkF m 306 #[oR r0, oR rw, oI 1, oI 1, oD md, oV, oI 0, oD mb, oV, oI 0] [(.int 0), (.ref ri)])) rfl rfl (hb hby d6_306) _ ?_
    show own_S p e below T221 m 307 #[oR r0, oR rw, oI 1, oI 1, oD md, oV, oI 0, oD mb, oV, oI 0] [(.ref j0)] _
    refine XS.iload X221.here hx rfl (hb hby d6_307) rfl ?_
    show own_S p e below T221 m 309 _ [(.int 0), (.ref j0)] _
    jvm_step X221.here [X221.here.top, hx, (hb hby d6_309), Value.category]
    show own_S p e below T221 m 310 #[oR r0, oR rw, oI 1, oI 1, oD md, oV, oI 0, oD mb, oV, oI 0] [(.int 0), (.ref j0), (.int 0), (.ref j0)] _
    refine X221.daload hx (j := (0 : Int32)) (v := (.double x0)) (by rw [e221]; exact Ar229.1) (State.isArrayOf_alike hZ.alike Ar229.2.1) Ar229.2.2 hin230 hat230 (g := (mkF m 310 #[oR r0, oR rw, oI 1, oI 1, oD md, oV, oI 0, oD mb, oV, oI 0] [(.int 0), (.ref j0), (.int 0), (.ref j0)])) rfl rfl (hb hby d6_310) _ ?_
    show own_S p e below T221 m 311 _ [(.double x0), (.int 0), (.ref j0)] _
    refine XS.dload X221.here hx rfl (hb hby d6_311) rfl ?_
    refine XS.aloadN X221.here hx rfl (hb hby d6_313) rfl rfl ?_
    show own_S p e below T221 m 314 _ [(.ref r0), (.double mb), (.double x0), (.int 0), (.ref j0)] _
    refine st231 _ ?_
    show own_S p e below T231 m 317 _ [(.ref ri), (.double mb), (.double x0), (.int 0), (.ref j0)] _
    refine XS.iloadN X231.here hx rfl (hb hby d6_317) rfl ?_
    show own_S p e below T231 m 318 _ [(.int 1), (.ref ri), (.double mb), (.double x0), (.int 0), (.ref j0)] _
    refine X231.aaload hx (j := (1 : Int32)) (v := (.ref j1)) (by rw [e231]; exact Ar223.1) (State.isArrayOf_alike hZ.alike Ar223.2.1) rfl Ar223.2.2 hin232 hat232 (g := (mkF m 318 #[oR r0, oR rw, oI 1, oI 1, oD md, oV, oI 0, oD mb, oV, oI 0] [(.int 1), (.ref ri), (.double mb), (.double x0), (.int 0), (.ref j0)])) rfl rfl (hb hby d6_318) _ ?_
    show own_S p e below T231 m 319 _ [(.ref j1), (.double mb), (.double x0), (.int 0), (.ref j0)] _
    refine XS.iload X231.here hx rfl (hb hby d6_319) rfl ?_
    show own_S p e below T231 m 321 #[oR r0, oR rw, oI 1, oI 1, oD md, oV, oI 0, oD mb, oV, oI 0] [(.int 0), (.ref j1), (.double mb), (.double x0), (.int 0), (.ref j0)] _
    refine X231.daload hx (j := (0 : Int32)) (v := (.double (FP.ddiv y0 md))) (by rw [e231]; exact Ar234.1) (State.isArrayOf_alike hZ.alike Ar234.2.1) Ar234.2.2 hin235 hat235 (g := (mkF m 321 #[oR r0, oR rw, oI 1, oI 1, oD md, oV, oI 0, oD mb, oV, oI 0] [(.int 0), (.ref j1), (.double mb), (.double x0), (.int 0), (.ref j0)])) rfl rfl (hb hby d6_321) _ ?_
    show own_S p e below T231 m 322 _ [(.double (FP.ddiv y0 md)), (.double mb), (.double x0), (.int 0), (.ref j0)] _
    refine XS.dmulS X231.here hx rfl (v := (FP.dmul mb (FP.ddiv y0 md))) (hb hby d6_322) rfl (hK.2 hz).2.1.1 rfl ?_
    show own_S p e below T231 m 323 _ [(.double (FP.dmul mb (FP.ddiv y0 md))), (.double x0), (.int 0), (.ref j0)] _
    refine XS.dsubS X231.here hx rfl (v := (FP.dsub x0 (FP.dmul mb (FP.ddiv y0 md)))) (hb hby d6_323) rfl (hK.2 hz).2.1.2 rfl ?_
    show own_S p e below T231 m 324 _ [(.double (FP.dsub x0 (FP.dmul mb (FP.ddiv y0 md)))), (.int 0), (.ref j0)] _
    refine st237 _ ?_
    show own_S p e below T237 m 325 _ [] _
    refine XS.iinc X237.here hx rfl (hb hby d6_325) rfl (l' := #[oR r0, oR rw, oI 1, oI 1, oD md, oV, oI 0, oD mb, oV, oI 1]) rfl ?_
    refine XS.goto X237.here hx rfl (pc0 := 328) (pc' := 272) rfl (hb hby d6_328) (by decide) (by decide) ?_
    refine XS.iload X237.here hx rfl (hb hby d6_272) rfl ?_
    refine XS.aloadN X237.here hx rfl (hb hby d6_274) rfl rfl ?_
    show own_S p e below T237 m 275 _ [(.ref r0), (.int 1)] _
    refine st241 _ ?_
    show own_S p e below T241 m 278 _ [(.int 2), (.int 1)] _
    refine XS.icmpNo X241.here hx rfl (hb hby d6_278) rfl (tlt (by decide : (1 : Int32) < (2 : Int32))).2.1 ?_
    refine XS.aloadN X241.here hx rfl (hb hby d6_281) rfl rfl ?_
    refine XS.iload X241.here hx rfl (hb hby d6_282) rfl ?_
    show own_S p e below T241 m 284 #[oR r0, oR rw, oI 1, oI 1, oD md, oV, oI 0, oD mb, oV, oI 1] [(.int 0), (.ref rw)] _
    refine X241.aaload hx (j := (0 : Int32)) (v := (.ref u0)) (by rw [e241]; exact Ar243.1) (State.isArrayOf_alike hZ.alike Ar243.2.1) rfl Ar243.2.2 hin244 hat244 (g := (mkF m 284 #[oR r0, oR rw, oI 1, oI 1, oD md, oV, oI 0, oD mb, oV, oI 1] [(.int 0), (.ref rw)])) rfl rfl (hb hby d6_284) _ ?_
    show own_S p e below T241 m 285 _ [(.ref u0)] _
    refine XS.iload X241.here hx rfl (hb hby d6_285) rfl ?_
    show own_S p e below T241 m 287 _ [(.int 1), (.ref u0)] _
    jvm_step X241.here [X241.here.top, hx, (hb hby d6_287), Value.category]
    show own_S p e below T241 m 288 #[oR r0, oR rw, oI 1, oI 1, oD md, oV, oI 0, oD mb, oV, oI 1] [(.int 1), (.ref u0), (.int 1), (.ref u0)] _
    refine X241.daload hx (j := (1 : Int32)) (v := (.double mb)) (by rw [e241]; exact Ar246.1) (State.isArrayOf_alike hZ.alike Ar246.2.1) Ar246.2.2 hin247 hat247 (g := (mkF m 288 #[oR r0, oR rw, oI 1, oI 1, oD md, oV, oI 0, oD mb, oV, oI 1] [(.int 1), (.ref u0), (.int 1), (.ref u0)])) rfl rfl (hb hby d6_288) _ ?_
    show own_S p e below T241 m 289 _ [(.double mb), (.int 1), (.ref u0)] _
    refine XS.dload X241.here hx rfl (hb hby d6_289) rfl ?_
    refine XS.aloadN X241.here hx rfl (hb hby d6_291) rfl rfl ?_
    refine XS.iloadN X241.here hx rfl (hb hby d6_292) rfl ?_
    show own_S p e below T241 m 293 _ [(.int 1), (.ref rw), (.double mb), (.double mb), (.int 1), (.ref u0)] _
    refine X241.aaload hx (j := (1 : Int32)) (v := (.ref u1)) (by rw [e241]; exact Ar243.1) (State.isArrayOf_alike hZ.alike Ar243.2.1) rfl Ar243.2.2 hin248 hat248 (g := (mkF m 293 #[oR r0, oR rw, oI 1, oI 1, oD md, oV, oI 0, oD mb, oV, oI 1] [(.int 1), (.ref rw), (.double mb), (.double mb), (.int 1), (.ref u0)])) rfl rfl (hb hby d6_293) _ ?_
    show own_S p e below T241 m 294 _ [(.ref u1), (.double mb), (.double mb), (.int 1), (.ref u0)] _
    refine XS.iload X241.here hx rfl (hb hby d6_294) rfl ?_
    show own_S p e below T241 m 296 _ [(.int 1), (.ref u1), (.double mb), (.double mb), (.int 1), (.ref u0)] _
    refine X241.daload hx (j := (1 : Int32)) (v := (.double (FP.ddiv md md))) (by rw [e241]; exact Ar250.1) (State.isArrayOf_alike hZ.alike Ar250.2.1) Ar250.2.2 hin251 hat251 (g := (mkF m 296 #[oR r0, oR rw, oI 1, oI 1, oD md, oV, oI 0, oD mb, oV, oI 1] [(.int 1), (.ref u1), (.double mb), (.double mb), (.int 1), (.ref u0)])) rfl rfl (hb hby d6_296) _ ?_
    show own_S p e below T241 m 297 #[oR r0, oR rw, oI 1, oI 1, oD md, oV, oI 0, oD mb, oV, oI 1] [(.double (FP.ddiv md md)), (.double mb), (.double mb), (.int 1), (.ref u0)] _
    refine XS.dmulS X241.here hx rfl (v := (FP.dmul mb (FP.ddiv md md))) (hb hby d6_297) rfl (hK.2 hz).2.2.1.1 rfl ?_
    show own_S p e below T241 m 298 _ [(.double (FP.dmul mb (FP.ddiv md md))), (.double mb), (.int 1), (.ref u0)] _
    refine XS.dsubS X241.here hx rfl (v := (FP.dsub mb (FP.dmul mb (FP.ddiv md md)))) (hb hby d6_298) rfl (hK.2 hz).2.2.1.2 rfl ?_
    show own_S p e below T241 m 299 _ [(.double (FP.dsub mb (FP.dmul mb (FP.ddiv md md)))), (.int 1), (.ref u0)] _
    refine st253 _ ?_
    show own_S p e below T253 m 300 _ [] _
    refine XS.aloadN X253.here hx rfl (hb hby d6_300) rfl rfl ?_
    show own_S p e below T253 m 301 _ [(.ref r0)] _
    refine st257 _ ?_
    show own_S p e below T257 m 304 _ [(.ref ri)] _
    refine XS.iload X257.here hx rfl (hb hby d6_304) rfl ?_
    show own_S p e below T257 m 306 _ [(.int 0), (.ref ri)] _
    refine X257.aaload hx (j := (0 : Int32)) (v := (.ref j0)) (by rw [e257]; exact Ar259.1) (State.isArrayOf_alike hZ.alike Ar259.2.1) rfl Ar259.2.2 hin260 hat260 (g := (mkF m 306 #[oR r0, oR rw, oI 1, oI 1, oD md, oV, oI 0, oD mb, oV, oI 1] [(.int 0), (.ref ri)])) rfl rfl (hb hby d6_306) _ ?_
    show own_S p e below T257 m 307 #[oR r0, oR rw, oI 1, oI 1, oD md, oV, oI 0, oD mb, oV, oI 1] [(.ref j0)] _
    refine XS.iload X257.here hx rfl (hb hby d6_307) rfl ?_
    show own_S p e below T257 m 309 _ [(.int 1), (.ref j0)] _
    jvm_step X257.here [X257.here.top, hx, (hb hby d6_309), Value.category]
    show own_S p e below T257 m 310 #[oR r0, oR rw, oI 1, oI 1, oD md, oV, oI 0, oD mb, oV, oI 1] [(.int 1), (.ref j0), (.int 1), (.ref j0)] _
    refine X257.daload hx (j := (1 : Int32)) (v := (.double x1)) (by rw [e257]; exact Ar262.1) (State.isArrayOf_alike hZ.alike Ar262.2.1) Ar262.2.2 hin263 hat263 (g := (mkF m 310 #[oR r0, oR rw, oI 1, oI 1, oD md, oV, oI 0, oD mb, oV, oI 1] [(.int 1), (.ref j0), (.int 1), (.ref j0)])) rfl rfl (hb hby d6_310) _ ?_
    show own_S p e below T257 m 311 _ [(.double x1), (.int 1), (.ref j0)] _
    refine XS.dload X257.here hx rfl (hb hby d6_311) rfl ?_
    refine XS.aloadN X257.here hx rfl (hb hby d6_313) rfl rfl ?_
    show own_S p e below T257 m 314 _ [(.ref r0), (.double mb), (.double x1), (.int 1), (.ref j0)] _
    refine st264 _ ?_
    show own_S p e below T264 m 317 _ [(.ref ri), (.double mb), (.double x1), (.int 1), (.ref j0)] _
    refine XS.iloadN X264.here hx rfl (hb hby d6_317) rfl ?_
    show own_S p e below T264 m 318 _ [(.int 1), (.ref ri), (.double mb), (.double x1), (.int 1), (.ref j0)] _
    refine X264.aaload hx (j := (1 : Int32)) (v := (.ref j1)) (by rw [e264]; exact Ar259.1) (State.isArrayOf_alike hZ.alike Ar259.2.1) rfl Ar259.2.2 hin265 hat265 (g := (mkF m 318 #[oR r0, oR rw, oI 1, oI 1, oD md, oV, oI 0, oD mb, oV, oI 1] [(.int 1), (.ref ri), (.double mb), (.double x1), (.int 1), (.ref j0)])) rfl rfl (hb hby d6_318) _ ?_
    show own_S p e below T264 m 319 _ [(.ref j1), (.double mb), (.double x1), (.int 1), (.ref j0)] _
    refine XS.iload X264.here hx rfl (hb hby d6_319) rfl ?_
    show own_S p e below T264 m 321 #[oR r0, oR rw, oI 1, oI 1, oD md, oV, oI 0, oD mb, oV, oI 1] [(.int 1), (.ref j1), (.double mb), (.double x1), (.int 1), (.ref j0)] _
    refine X264.daload hx (j := (1 : Int32)) (v := (.double (FP.ddiv y1 md))) (by rw [e264]; exact Ar267.1) (State.isArrayOf_alike hZ.alike Ar267.2.1) Ar267.2.2 hin268 hat268 (g := (mkF m 321 #[oR r0, oR rw, oI 1, oI 1, oD md, oV, oI 0, oD mb, oV, oI 1] [(.int 1), (.ref j1), (.double mb), (.double x1), (.int 1), (.ref j0)])) rfl rfl (hb hby d6_321) _ ?_
    show own_S p e below T264 m 322 _ [(.double (FP.ddiv y1 md)), (.double mb), (.double x1), (.int 1), (.ref j0)] _
    refine XS.dmulS X264.here hx rfl (v := (FP.dmul mb (FP.ddiv y1 md))) (hb hby d6_322) rfl (hK.2 hz).2.2.2.1 rfl ?_
    show own_S p e below T264 m 323 _ [(.double (FP.dmul mb (FP.ddiv y1 md))), (.double x1), (.int 1), (.ref j0)] _
    refine XS.dsubS X264.here hx rfl (v := (FP.dsub x1 (FP.dmul mb (FP.ddiv y1 md)))) (hb hby d6_323) rfl (hK.2 hz).2.2.2.2 rfl ?_
    show own_S p e below T264 m 324 _ [(.double (FP.dsub x1 (FP.dmul mb (FP.ddiv y1 md)))), (.int 1), (.ref j0)] _
    refine st270 _ ?_
    show own_S p e below T270 m 325 _ [] _
    refine XS.iinc X270.here hx rfl (hb hby d6_325) rfl (l' := #[oR r0, oR rw, oI 1, oI 1, oD md, oV, oI 0, oD mb, oV, oI 2]) rfl ?_
    refine XS.goto X270.here hx rfl (pc0 := 328) (pc' := 272) rfl (hb hby d6_328) (by decide) (by decide) ?_
    refine XS.iload X270.here hx rfl (hb hby d6_272) rfl ?_
    refine XS.aloadN X270.here hx rfl (hb hby d6_274) rfl rfl ?_
    show own_S p e below T270 m 275 _ [(.ref r0), (.int 2)] _
    refine st274 _ ?_
    show own_S p e below T274 m 278 _ [(.int 2), (.int 2)] _
    refine XS.icmpYes X274.here hx rfl (pc0 := 278) (pc' := 331) rfl (hb hby d6_278) rfl (flt (by decide : ¬ ((2 : Int32) < (2 : Int32)))).2.1 (by decide) (by decide) ?_
    refine XS.iinc X274.here hx rfl (hb hby d6_331) rfl (l' := #[oR r0, oR rw, oI 1, oI 1, oD md, oV, oI 1, oD mb, oV, oI 2]) rfl ?_
    refine XS.goto X274.here hx rfl (pc0 := 334) (pc' := 239) rfl (hb hby d6_334) (by decide) (by decide) ?_
    refine XS.iload X274.here hx rfl (hb hby d6_239) rfl ?_
    show own_S p e below T274 m 241 _ [(.int 1)] _
    refine XS.aloadN X274.here hx rfl (hb hby d6_241) rfl rfl ?_
    show own_S p e below T274 m 242 _ [(.ref r0), (.int 1)] _
    refine st275 _ ?_
    show own_S p e below T275 m 245 _ [(.int 2), (.int 1)] _
    refine XS.icmpNo X275.here hx rfl (hb hby d6_245) rfl (tlt (by decide : (1 : Int32) < (2 : Int32))).2.1 ?_
    refine XS.aloadN X275.here hx rfl (hb hby d6_248) rfl rfl ?_
    refine XS.iload X275.here hx rfl (hb hby d6_249) rfl ?_
    show own_S p e below T275 m 251 #[oR r0, oR rw, oI 1, oI 1, oD md, oV, oI 1, oD mb, oV, oI 2] [(.int 1), (.ref rw)] _
    refine X275.aaload hx (j := (1 : Int32)) (v := (.ref u1)) (by rw [e275]; exact Ar277.1) (State.isArrayOf_alike hZ.alike Ar277.2.1) rfl Ar277.2.2 hin278 hat278 (g := (mkF m 251 #[oR r0, oR rw, oI 1, oI 1, oD md, oV, oI 1, oD mb, oV, oI 2] [(.int 1), (.ref rw)])) rfl rfl (hb hby d6_251) _ ?_
    show own_S p e below T275 m 252 _ [(.ref u1)] _
    refine XS.iloadN X275.here hx rfl (hb hby d6_252) rfl ?_
    show own_S p e below T275 m 253 _ [(.int 1), (.ref u1)] _
    refine X275.daload hx (j := (1 : Int32)) (v := (.double (FP.ddiv md md))) (by rw [e275]; exact Ar280.1) (State.isArrayOf_alike hZ.alike Ar280.2.1) Ar280.2.2 hin281 hat281 (g := (mkF m 253 #[oR r0, oR rw, oI 1, oI 1, oD md, oV, oI 1, oD mb, oV, oI 2] [(.int 1), (.ref u1)])) rfl rfl (hb hby d6_253) _ ?_
    show own_S p e below T275 m 254 _ [(.double (FP.ddiv md md))] _
    refine XS.dstore X275.here hx rfl (hb hby d6_254) rfl (l' := #[oR r0, oR rw, oI 1, oI 1, oD md, oV, oI 1, oD (FP.ddiv md md), oV, oI 2]) rfl ?_
    refine XS.iload X275.here hx rfl (hb hby d6_256) rfl ?_
    refine XS.iloadN X275.here hx rfl (hb hby d6_258) rfl ?_
    refine XS.icmpYes X275.here hx rfl (pc0 := 259) (pc' := 331) rfl (hb hby d6_259) rfl (teq (by decide : (1 : Int32) = (1 : Int32))).1 (by decide) (by decide) ?_
    show own_S p e below T275 m 331 _ [] _
    refine XS.iinc X275.here hx rfl (hb hby d6_331) rfl (l' := #[oR r0, oR rw, oI 1, oI 1, oD md, oV, oI 2, oD (FP.ddiv md md), oV, oI 2]) rfl ?_
    refine XS.goto X275.here hx rfl (pc0 := 334) (pc' := 239) rfl (hb hby d6_334) (by decide) (by decide) ?_
    refine XS.iload X275.here hx rfl (hb hby d6_239) rfl ?_
    refine XS.aloadN X275.here hx rfl (hb hby d6_241) rfl rfl ?_
    show own_S p e below T275 m 242 _ [(.ref r0), (.int 2)] _
    refine st282 _ ?_
    show own_S p e below T282 m 245 _ [(.int 2), (.int 2)] _
    refine XS.icmpYes X282.here hx rfl (pc0 := 245) (pc' := 337) rfl (hb hby d6_245) rfl (flt (by decide : ¬ ((2 : Int32) < (2 : Int32)))).2.1 (by decide) (by decide) ?_
    refine XS.iinc X282.here hx rfl (hb hby d6_337) rfl (l' := #[oR r0, oR rw, oI 2, oI 1, oD md, oV, oI 2, oD (FP.ddiv md md), oV, oI 2]) rfl ?_
    refine XS.goto X282.here hx rfl (pc0 := 340) (pc' := 100) rfl (hb hby d6_340) (by decide) (by decide) ?_
    refine XS.iloadN X282.here hx rfl (hb hby d6_100) rfl ?_
    show own_S p e below T282 m 101 _ [(.int 2)] _
    refine XS.aloadN X282.here hx rfl (hb hby d6_101) rfl rfl ?_
    show own_S p e below T282 m 102 _ [(.ref r0), (.int 2)] _
    refine st283 _ ?_
    show own_S p e below T283 m 105 _ [(.int 2), (.int 2)] _
    refine XS.icmpYes X283.here hx rfl (pc0 := 105) (pc' := 343) rfl (hb hby d6_105) rfl (flt (by decide : ¬ ((2 : Int32) < (2 : Int32)))).2.1 (by decide) (by decide) ?_
    exact kt
theorem d6_343 : decode k6 343 = .ok (.iconst 0, 1) := by decide +kernel
theorem d6_344 : decode k6 344 = .ok (.istore_n 2, 1) := by decide +kernel
theorem d6_345 : decode k6 345 = .ok (.iload_n 2, 1) := by decide +kernel
theorem d6_346 : decode k6 346 = .ok (.aload_n 0, 1) := by decide +kernel
theorem d6_347 : decode k6 347 = .ok (.getfield 31, 3) := by decide +kernel
theorem d6_350 : decode k6 350 = .ok (.if_icmp .ge 56, 3) := by decide +kernel
theorem d6_353 : decode k6 353 = .ok (.dconst 0, 1) := by decide +kernel
theorem d6_354 : decode k6 354 = .ok (.dstore_n 3, 1) := by decide +kernel
theorem d6_355 : decode k6 355 = .ok (.iconst 0, 1) := by decide +kernel
theorem d6_356 : decode k6 356 = .ok (.istore 5, 2) := by decide +kernel
theorem d6_358 : decode k6 358 = .ok (.iload 5, 2) := by decide +kernel
theorem d6_360 : decode k6 360 = .ok (.aload_n 0, 1) := by decide +kernel
theorem d6_361 : decode k6 361 = .ok (.getfield 31, 3) := by decide +kernel
theorem d6_364 : decode k6 364 = .ok (.if_icmp .ge 29, 3) := by decide +kernel
theorem d6_367 : decode k6 367 = .ok (.dload_n 3, 1) := by decide +kernel
theorem d6_368 : decode k6 368 = .ok (.aload_n 0, 1) := by decide +kernel
theorem d6_369 : decode k6 369 = .ok (.getfield 46, 3) := by decide +kernel
theorem d6_372 : decode k6 372 = .ok (.iload_n 2, 1) := by decide +kernel
theorem d6_373 : decode k6 373 = .ok (.aaload, 1) := by decide +kernel
theorem d6_374 : decode k6 374 = .ok (.iload 5, 2) := by decide +kernel
theorem d6_376 : decode k6 376 = .ok (.daload, 1) := by decide +kernel
theorem d6_377 : decode k6 377 = .ok (.aload_n 0, 1) := by decide +kernel
theorem d6_378 : decode k6 378 = .ok (.getfield 39, 3) := by decide +kernel
theorem d6_381 : decode k6 381 = .ok (.iload 5, 2) := by decide +kernel
theorem d6_383 : decode k6 383 = .ok (.daload, 1) := by decide +kernel
theorem d6_384 : decode k6 384 = .ok (.dmul, 1) := by decide +kernel
theorem d6_385 : decode k6 385 = .ok (.dadd, 1) := by decide +kernel
theorem d6_386 : decode k6 386 = .ok (.dstore_n 3, 1) := by decide +kernel
theorem d6_387 : decode k6 387 = .ok (.iinc 5 1, 3) := by decide +kernel
theorem d6_390 : decode k6 390 = .ok (.goto (-32), 3) := by decide +kernel
theorem d6_393 : decode k6 393 = .ok (.aload_n 0, 1) := by decide +kernel
theorem d6_394 : decode k6 394 = .ok (.getfield 49, 3) := by decide +kernel
theorem d6_397 : decode k6 397 = .ok (.iload_n 2, 1) := by decide +kernel
theorem d6_398 : decode k6 398 = .ok (.dload_n 3, 1) := by decide +kernel
theorem d6_399 : decode k6 399 = .ok (.dastore, 1) := by decide +kernel
theorem d6_400 : decode k6 400 = .ok (.iinc 2 1, 3) := by decide +kernel
theorem d6_403 : decode k6 403 = .ok (.goto (-58), 3) := by decide +kernel
set_option maxRecDepth 65536 in
set_option maxHeartbeats 40000000 in
theorem own_SV (l : Launch) (Z : State) (a0 : Array Value) (hw : own_HW Z a0) (r0 : Addr) (rw : Addr) (ri : Addr) (j0 : Addr) (j1 : Addr) (rh : Addr) (va : Addr) (kri : ClassId) (ki : ClassId) (krh : ClassId) (kva : ClassId) (g0 : UInt64) (g1 : UInt64) (x0 : UInt64) (x1 : UInt64) (y0 : UInt64) (y1 : UInt64) (z0 : UInt64) (z1 : UInt64) (t4 : UInt64) (t7 : UInt64) (s9 : Slot) (h0 : Heap) (n0 : Nat) (Z0 : n0 ≤ h0.size) (F_rows_r0 : Fld Z h0 r0 own_K1 "rows" "I" (.int 2)) (F_inverse_r0 : Fld Z h0 r0 own_K1 "inverse" "[[D" (.ref ri)) (F_rhs_r0 : Fld Z h0 r0 own_K1 "rhs" "[D" (.ref rh)) (F_values_r0 : Fld Z h0 r0 own_K1 "values" "[D" (.ref va)) (V_ri : Arv Z h0 ri kri (.array .double) (2 : Int32) [(.ref j0), (.ref j1)] .null) (V_j0 : Arv Z h0 j0 ki .double (2 : Int32) [(.double x0), (.double x1)] (.double 0)) (V_j1 : Arv Z h0 j1 ki .double (2 : Int32) [(.double y0), (.double y1)] (.double 0)) (V_rh : Arv Z h0 rh krh .double (2 : Int32) [(.double g0), (.double g1)] (.double 0)) (V_va : Arv Z h0 va kva .double (2 : Int32) [(.double z0), (.double z1)] (.double 0)) (E_r0 : Exa Z h0 r0 own_K1) (E_ri : Exa Z h0 ri "[[D") (E_va : Exa Z h0 va "[D") (g_va : n0 ≤ va) (ne_va_j0 : va ≠ j0) (ne_va_j1 : va ≠ j1) (ne_rh_va : rh ≠ va) (hV0 : own_okV g0 g1 x0 x1) (hV1 : own_okV g0 g1 y0 y1) (hs9 : One s9)
    {p : Program} {e : Env} {s : State} {m : MethodId} {args : Array Value} {below : List Frame} {meth : Method} {c : Code} {s₁ : State} {Lc : List Loc} (hx : p.tables.exec = Jvm.exec) (hby : c.code = prog_41_method_12_code) (hml : c.maxLocals = 10) (hZ : Z.Warmed39 s.vm) (hown : s.vm.findClass own_K1 = some m.cls) (hnm : meth.name = "refresh") (X0 : Stand p l e ({ frames := 1, cells := 3, slots := 6, locals := 40 } : Room) s m args below meth c s₁ Lc 3 6) (e0 : s₁.heap = h0) (N0 : Fr n0 Lc) :
    ∃ T : State, ∃ L : List Loc, Stand p l e ({ frames := 1, cells := 3, slots := 6, locals := 40 } : Room) s m args below meth c T L 3 6 ∧ Fr n0 L ∧ (Keep h0 T.heap [va]) ∧ (Arv Z T.heap va kva .double (2 : Int32) [(.double (own_v g0 g1 x0 x1)), (.double (own_v g0 g1 y0 y1))] (.double 0)) ∧ ∀ t, Steps p.tables e below (T.setTop (mkF m 406 #[oR r0, oR rw, oI 2, oD (own_v g0 g1 y0 y1), oV, oI 2, oI 2, oD t7, oV, s9] [])) t → Steps p.tables e below (s₁.setTop (mkF m 343 #[oR r0, oR rw, oI 2, oI 1, oD t4, oV, oI 2, oD t7, oV, s9] [])) t := by
  obtain ⟨T101, X101, e101, st101⟩ := getF X0 hx hZ hown (host := "") (Or.inl (own_w hw 30 rfl)) Via.refl e0 F_rows_r0 (g := (mkF m 347 #[oR r0, oR rw, oI 0, oI 1, oD t4, oV, oI 2, oD t7, oV, s9] [(.ref r0), (.int 0)])) rfl rfl (hb hby d6_347)
  obtain ⟨T102, X102, e102, st102⟩ := getF X101 hx hZ hown (host := "") (Or.inl (own_w hw 30 rfl)) Via.refl e101 F_rows_r0 (g := (mkF m 361 #[oR r0, oR rw, oI 0, oD 0, oV, oI 0, oI 2, oD t7, oV, s9] [(.ref r0), (.int 0)])) rfl rfl (hb hby d6_361)
  obtain ⟨T103, X103, e103, st103⟩ := getF X102 hx hZ hown (host := "") (Or.inl (own_w hw 45 rfl)) Via.refl e102 F_inverse_r0 (g := (mkF m 369 #[oR r0, oR rw, oI 0, oD 0, oV, oI 0, oI 2, oD t7, oV, s9] [(.ref r0), (.double 0)])) rfl rfl (hb hby d6_369)
  obtain ⟨cl104, Ar104, qk104, Sz104, Nz104, Hh104, Gg104⟩ := id V_ri
  have hin105 : ¬ ((0 : Int32) < 0 ∨ cl104.slots.size ≤ ((0 : Int32)).toNatClampNeg) := inb_of Sz104 ⟨by decide, by decide⟩
  have hat105 : cl104.slots[((0 : Int32)).toNatClampNeg]? = some (.ref j0) := Has.at Hh104 hin105 rfl
  obtain ⟨cl106, Ar106, qk106, Sz106, Nz106, Hh106, Gg106⟩ := id V_j0
  have hin107 : ¬ ((0 : Int32) < 0 ∨ cl106.slots.size ≤ ((0 : Int32)).toNatClampNeg) := inb_of Sz106 ⟨by decide, by decide⟩
  have hat107 : cl106.slots[((0 : Int32)).toNatClampNeg]? = some (.double x0) := Has.at Hh106 hin107 rfl
  obtain ⟨T108, X108, e108, st108⟩ := getF X103 hx hZ hown (host := "") (Or.inl (own_w hw 40 rfl)) Via.refl e103 F_rhs_r0 (g := (mkF m 378 #[oR r0, oR rw, oI 0, oD 0, oV, oI 0, oI 2, oD t7, oV, s9] [(.ref r0), (.double x0), (.double 0)])) rfl rfl (hb hby d6_378)
  obtain ⟨cl109, Ar109, qk109, Sz109, Nz109, Hh109, Gg109⟩ := id V_rh
  have hin110 : ¬ ((0 : Int32) < 0 ∨ cl109.slots.size ≤ ((0 : Int32)).toNatClampNeg) := inb_of Sz109 ⟨by decide, by decide⟩
  have hat110 : cl109.slots[((0 : Int32)).toNatClampNeg]? = some (.double g0) := Has.at Hh109 hin110 rfl
  obtain ⟨T111, X111, e111, st111⟩ := getF X108 hx hZ hown (host := "") (Or.inl (own_w hw 30 rfl)) Via.refl e108 F_rows_r0 (g := (mkF m 361 #[oR r0, oR rw, oI 0, .val (.double (FP.dadd (0 : UInt64) (FP.dmul x0 g0))), oV, oI 1, oI 2, oD t7, oV, s9] [(.ref r0), (.int 1)])) rfl rfl (hb hby d6_361)
  obtain ⟨T112, X112, e112, st112⟩ := getF X111 hx hZ hown (host := "") (Or.inl (own_w hw 45 rfl)) Via.refl e111 F_inverse_r0 (g := (mkF m 369 #[oR r0, oR rw, oI 0, .val (.double (FP.dadd (0 : UInt64) (FP.dmul x0 g0))), oV, oI 1, oI 2, oD t7, oV, s9] [(.ref r0), (.double (FP.dadd (0 : UInt64) (FP.dmul x0 g0)))])) rfl rfl (hb hby d6_369)
  have hin113 : ¬ ((0 : Int32) < 0 ∨ cl104.slots.size ≤ ((0 : Int32)).toNatClampNeg) := inb_of Sz104 ⟨by decide, by decide⟩
  have hat113 : cl104.slots[((0 : Int32)).toNatClampNeg]? = some (.ref j0) := Has.at Hh104 hin113 rfl
  have hin114 : ¬ ((1 : Int32) < 0 ∨ cl106.slots.size ≤ ((1 : Int32)).toNatClampNeg) := inb_of Sz106 ⟨by decide, by decide⟩
  have hat114 : cl106.slots[((1 : Int32)).toNatClampNeg]? = some (.double x1) := Has.at Hh106 hin114 rfl
  obtain ⟨T115, X115, e115, st115⟩ := getF X112 hx hZ hown (host := "") (Or.inl (own_w hw 40 rfl)) Via.refl e112 F_rhs_r0 (g := (mkF m 378 #[oR r0, oR rw, oI 0, .val (.double (FP.dadd (0 : UInt64) (FP.dmul x0 g0))), oV, oI 1, oI 2, oD t7, oV, s9] [(.ref r0), (.double x1), (.double (FP.dadd (0 : UInt64) (FP.dmul x0 g0)))])) rfl rfl (hb hby d6_378)
  have hin116 : ¬ ((1 : Int32) < 0 ∨ cl109.slots.size ≤ ((1 : Int32)).toNatClampNeg) := inb_of Sz109 ⟨by decide, by decide⟩
  have hat116 : cl109.slots[((1 : Int32)).toNatClampNeg]? = some (.double g1) := Has.at Hh109 hin116 rfl
  obtain ⟨T117, X117, e117, st117⟩ := getF X115 hx hZ hown (host := "") (Or.inl (own_w hw 30 rfl)) Via.refl e115 F_rows_r0 (g := (mkF m 361 #[oR r0, oR rw, oI 0, oD (own_v g0 g1 x0 x1), oV, oI 2, oI 2, oD t7, oV, s9] [(.ref r0), (.int 2)])) rfl rfl (hb hby d6_361)
  obtain ⟨T118, X118, e118, st118⟩ := getF X117 hx hZ hown (host := "") (Or.inl (own_w hw 47 rfl)) Via.refl e117 F_values_r0 (g := (mkF m 394 #[oR r0, oR rw, oI 0, oD (own_v g0 g1 x0 x1), oV, oI 2, oI 2, oD t7, oV, s9] [(.ref r0)])) rfl rfl (hb hby d6_394)
  obtain ⟨cl119, Ar119, qk119, Sz119, Nz119, Hh119, Gg119⟩ := id V_va
  have hin120 : ¬ ((0 : Int32) < 0 ∨ cl119.slots.size ≤ ((0 : Int32)).toNatClampNeg) := inb_of Sz119 ⟨by decide, by decide⟩
  obtain ⟨T121, h121, X121, e121, W121, st121⟩ := stD X118 hx hZ e118 Ar119 (j := (0 : Int32)) hin120 (g := (mkF m 399 #[oR r0, oR rw, oI 0, oD (own_v g0 g1 x0 x1), oV, oI 2, oI 2, oD t7, oV, s9] [(.double (own_v g0 g1 x0 x1)), (.int 0), (.ref va)])) rfl rfl (hb hby d6_399)
  have Va121 := Arv.set Ar119 qk119 Sz119 Nz119 Hh119 Gg119 rfl W121 0 rfl (Nat.le_of_ble_eq_true rfl)
  have N121 := Fr.snoc X121 N0 g_va
  have ZZ122 : n0 ≤ h121.size := Nat.le_trans Z0 (Nat.le_of_eq W121.size.symm)
  have KK123 : Keep h0 h121 [va] := (Keep.refl h0 [va]).wr W121 (Or.inl (List.mem_of_getElem? (i := 0) rfl))
  have nq124 : r0 ≠ va := (ne_exa (E_r0.wr W121) (E_va.wr W121) (by decide))
  have Fc125 := (F_rows_r0.other W121 (Or.inl nq124))
  obtain ⟨T126, X126, e126, st126⟩ := getF X121 hx hZ hown (host := "") (Or.inl (own_w hw 30 rfl)) Via.refl e121 Fc125 (g := (mkF m 347 #[oR r0, oR rw, oI 1, oD (own_v g0 g1 x0 x1), oV, oI 2, oI 2, oD t7, oV, s9] [(.ref r0), (.int 1)])) rfl rfl (hb hby d6_347)
  obtain ⟨T127, X127, e127, st127⟩ := getF X126 hx hZ hown (host := "") (Or.inl (own_w hw 30 rfl)) Via.refl e126 Fc125 (g := (mkF m 361 #[oR r0, oR rw, oI 1, oD 0, oV, oI 0, oI 2, oD t7, oV, s9] [(.ref r0), (.int 0)])) rfl rfl (hb hby d6_361)
  have Fc128 := (F_inverse_r0.other W121 (Or.inl nq124))
  obtain ⟨T129, X129, e129, st129⟩ := getF X127 hx hZ hown (host := "") (Or.inl (own_w hw 45 rfl)) Via.refl e127 Fc128 (g := (mkF m 369 #[oR r0, oR rw, oI 1, oD 0, oV, oI 0, oI 2, oD t7, oV, s9] [(.ref r0), (.double 0)])) rfl rfl (hb hby d6_369)
  have nq130 : ri ≠ va := (ne_exa (E_ri.wr W121) (E_va.wr W121) (by decide))
  obtain ⟨cl131, Ar131, qk131, Sz131, Nz131, Hh131, Gg131⟩ := id (V_ri.other W121 nq130)
  have hin132 : ¬ ((1 : Int32) < 0 ∨ cl131.slots.size ≤ ((1 : Int32)).toNatClampNeg) := inb_of Sz131 ⟨by decide, by decide⟩
  have hat132 : cl131.slots[((1 : Int32)).toNatClampNeg]? = some (.ref j1) := Has.at Hh131 hin132 rfl
  have Fc133 := (V_j1.other W121 (Ne.symm ne_va_j1))
  obtain ⟨cl134, Ar134, qk134, Sz134, Nz134, Hh134, Gg134⟩ := id Fc133
  have hin135 : ¬ ((0 : Int32) < 0 ∨ cl134.slots.size ≤ ((0 : Int32)).toNatClampNeg) := inb_of Sz134 ⟨by decide, by decide⟩
  have hat135 : cl134.slots[((0 : Int32)).toNatClampNeg]? = some (.double y0) := Has.at Hh134 hin135 rfl
  have Fc136 := (F_rhs_r0.other W121 (Or.inl nq124))
  obtain ⟨T137, X137, e137, st137⟩ := getF X129 hx hZ hown (host := "") (Or.inl (own_w hw 40 rfl)) Via.refl e129 Fc136 (g := (mkF m 378 #[oR r0, oR rw, oI 1, oD 0, oV, oI 0, oI 2, oD t7, oV, s9] [(.ref r0), (.double y0), (.double 0)])) rfl rfl (hb hby d6_378)
  have Fc138 := (V_rh.other W121 ne_rh_va)
  obtain ⟨cl139, Ar139, qk139, Sz139, Nz139, Hh139, Gg139⟩ := id Fc138
  have hin140 : ¬ ((0 : Int32) < 0 ∨ cl139.slots.size ≤ ((0 : Int32)).toNatClampNeg) := inb_of Sz139 ⟨by decide, by decide⟩
  have hat140 : cl139.slots[((0 : Int32)).toNatClampNeg]? = some (.double g0) := Has.at Hh139 hin140 rfl
  obtain ⟨T141, X141, e141, st141⟩ := getF X137 hx hZ hown (host := "") (Or.inl (own_w hw 30 rfl)) Via.refl e137 Fc125 (g := (mkF m 361 #[oR r0, oR rw, oI 1, .val (.double (FP.dadd (0 : UInt64) (FP.dmul y0 g0))), oV, oI 1, oI 2, oD t7, oV, s9] [(.ref r0), (.int 1)])) rfl rfl (hb hby d6_361)
  obtain ⟨T142, X142, e142, st142⟩ := getF X141 hx hZ hown (host := "") (Or.inl (own_w hw 45 rfl)) Via.refl e141 Fc128 (g := (mkF m 369 #[oR r0, oR rw, oI 1, .val (.double (FP.dadd (0 : UInt64) (FP.dmul y0 g0))), oV, oI 1, oI 2, oD t7, oV, s9] [(.ref r0), (.double (FP.dadd (0 : UInt64) (FP.dmul y0 g0)))])) rfl rfl (hb hby d6_369)
  obtain ⟨cl143, Ar143, qk143, Sz143, Nz143, Hh143, Gg143⟩ := id (V_ri.other W121 nq130)
  have hin144 : ¬ ((1 : Int32) < 0 ∨ cl143.slots.size ≤ ((1 : Int32)).toNatClampNeg) := inb_of Sz143 ⟨by decide, by decide⟩
  have hat144 : cl143.slots[((1 : Int32)).toNatClampNeg]? = some (.ref j1) := Has.at Hh143 hin144 rfl
  have hin145 : ¬ ((1 : Int32) < 0 ∨ cl134.slots.size ≤ ((1 : Int32)).toNatClampNeg) := inb_of Sz134 ⟨by decide, by decide⟩
  have hat145 : cl134.slots[((1 : Int32)).toNatClampNeg]? = some (.double y1) := Has.at Hh134 hin145 rfl
  obtain ⟨T146, X146, e146, st146⟩ := getF X142 hx hZ hown (host := "") (Or.inl (own_w hw 40 rfl)) Via.refl e142 Fc136 (g := (mkF m 378 #[oR r0, oR rw, oI 1, .val (.double (FP.dadd (0 : UInt64) (FP.dmul y0 g0))), oV, oI 1, oI 2, oD t7, oV, s9] [(.ref r0), (.double y1), (.double (FP.dadd (0 : UInt64) (FP.dmul y0 g0)))])) rfl rfl (hb hby d6_378)
  have hin147 : ¬ ((1 : Int32) < 0 ∨ cl139.slots.size ≤ ((1 : Int32)).toNatClampNeg) := inb_of Sz139 ⟨by decide, by decide⟩
  have hat147 : cl139.slots[((1 : Int32)).toNatClampNeg]? = some (.double g1) := Has.at Hh139 hin147 rfl
  obtain ⟨T148, X148, e148, st148⟩ := getF X146 hx hZ hown (host := "") (Or.inl (own_w hw 30 rfl)) Via.refl e146 Fc125 (g := (mkF m 361 #[oR r0, oR rw, oI 1, oD (own_v g0 g1 y0 y1), oV, oI 2, oI 2, oD t7, oV, s9] [(.ref r0), (.int 2)])) rfl rfl (hb hby d6_361)
  have Fc149 := (F_values_r0.other W121 (Or.inl nq124))
  obtain ⟨T150, X150, e150, st150⟩ := getF X148 hx hZ hown (host := "") (Or.inl (own_w hw 47 rfl)) Via.refl e148 Fc149 (g := (mkF m 394 #[oR r0, oR rw, oI 1, oD (own_v g0 g1 y0 y1), oV, oI 2, oI 2, oD t7, oV, s9] [(.ref r0)])) rfl rfl (hb hby d6_394)
  obtain ⟨cl151, Ar151, qk151, Sz151, Nz151, Hh151, Gg151⟩ := id Va121
  have hin152 : ¬ ((1 : Int32) < 0 ∨ cl151.slots.size ≤ ((1 : Int32)).toNatClampNeg) := inb_of Sz151 ⟨by decide, by decide⟩
  obtain ⟨T153, h153, X153, e153, W153, st153⟩ := stD X150 hx hZ e150 Ar151 (j := (1 : Int32)) hin152 (g := (mkF m 399 #[oR r0, oR rw, oI 1, oD (own_v g0 g1 y0 y1), oV, oI 2, oI 2, oD t7, oV, s9] [(.double (own_v g0 g1 y0 y1)), (.int 1), (.ref va)])) rfl rfl (hb hby d6_399)
  have Va153 := Arv.set Ar151 qk151 Sz151 Nz151 Hh151 Gg151 rfl W153 1 rfl (Nat.le_of_ble_eq_true rfl)
  have N153 := Fr.snoc X153 N121 g_va
  have ZZ154 : n0 ≤ h153.size := Nat.le_trans ZZ122 (Nat.le_of_eq W153.size.symm)
  have KK155 : Keep h0 h153 [va] := KK123.wr W153 (Or.inl (List.mem_of_getElem? (i := 0) rfl))
  have Fc156 := (Fc125.other W153 (Or.inl nq124))
  obtain ⟨T157, X157, e157, st157⟩ := getF X153 hx hZ hown (host := "") (Or.inl (own_w hw 30 rfl)) Via.refl e153 Fc156 (g := (mkF m 347 #[oR r0, oR rw, oI 2, oD (own_v g0 g1 y0 y1), oV, oI 2, oI 2, oD t7, oV, s9] [(.ref r0), (.int 2)])) rfl rfl (hb hby d6_347)
  refine ⟨_, _, X157, N153, (by rw [e157]; exact KK155), (by rw [e157]; exact Va153), fun t kt => ?_⟩
  show own_S p e below s₁ m 343 #[oR r0, oR rw, oI 2, oI 1, oD t4, oV, oI 2, oD t7, oV, s9] [] _
  refine XS.iconst X0.here hx rfl (hb hby d6_343) ?_
  refine XS.istoreN X0.here hx rfl (hb hby d6_344) rfl (l' := #[oR r0, oR rw, oI 0, oI 1, oD t4, oV, oI 2, oD t7, oV, s9]) rfl ?_
  refine XS.iloadN X0.here hx rfl (hb hby d6_345) rfl ?_
  refine XS.aloadN X0.here hx rfl (hb hby d6_346) rfl rfl ?_
  show own_S p e below s₁ m 347 _ [(.ref r0), (.int 0)] _
  refine st101 _ ?_
  show own_S p e below T101 m 350 _ [(.int 2), (.int 0)] _
  refine XS.icmpNo X101.here hx rfl (hb hby d6_350) rfl (tlt (by decide : (0 : Int32) < (2 : Int32))).2.1 ?_
  refine XS.dconst0 X101.here hx rfl (v := 0) (hb hby d6_353) rfl ?_
  refine XS.dstoreN X101.here hx rfl (hb hby d6_354) rfl (l' := #[oR r0, oR rw, oI 0, oD 0, oV, oU, oI 2, oD t7, oV, s9]) rfl ?_
  refine XS.iconst X101.here hx rfl (hb hby d6_355) ?_
  show own_S p e below T101 m 356 _ [(.int 0)] _
  refine XS.istore X101.here hx rfl (hb hby d6_356) rfl (l' := #[oR r0, oR rw, oI 0, oD 0, oV, oI 0, oI 2, oD t7, oV, s9]) rfl ?_
  refine XS.iload X101.here hx rfl (hb hby d6_358) rfl ?_
  refine XS.aloadN X101.here hx rfl (hb hby d6_360) rfl rfl ?_
  show own_S p e below T101 m 361 _ [(.ref r0), (.int 0)] _
  refine st102 _ ?_
  show own_S p e below T102 m 364 _ [(.int 2), (.int 0)] _
  refine XS.icmpNo X102.here hx rfl (hb hby d6_364) rfl (tlt (by decide : (0 : Int32) < (2 : Int32))).2.1 ?_
  refine XS.dloadN X102.here hx rfl (hb hby d6_367) rfl ?_
  refine XS.aloadN X102.here hx rfl (hb hby d6_368) rfl rfl ?_
  show own_S p e below T102 m 369 _ [(.ref r0), (.double 0)] _
  refine st103 _ ?_
  show own_S p e below T103 m 372 #[oR r0, oR rw, oI 0, oD 0, oV, oI 0, oI 2, oD t7, oV, s9] [(.ref ri), (.double 0)] _
  refine XS.iloadN X103.here hx rfl (hb hby d6_372) rfl ?_
  show own_S p e below T103 m 373 _ [(.int 0), (.ref ri), (.double 0)] _
  refine X103.aaload hx (j := (0 : Int32)) (v := (.ref j0)) (by rw [e103]; exact Ar104.1) (State.isArrayOf_alike hZ.alike Ar104.2.1) rfl Ar104.2.2 hin105 hat105 (g := (mkF m 373 #[oR r0, oR rw, oI 0, oD 0, oV, oI 0, oI 2, oD t7, oV, s9] [(.int 0), (.ref ri), (.double 0)])) rfl rfl (hb hby d6_373) _ ?_
  show own_S p e below T103 m 374 _ [(.ref j0), (.double 0)] _
  refine XS.iload X103.here hx rfl (hb hby d6_374) rfl ?_
  show own_S p e below T103 m 376 _ [(.int 0), (.ref j0), (.double 0)] _
  refine X103.daload hx (j := (0 : Int32)) (v := (.double x0)) (by rw [e103]; exact Ar106.1) (State.isArrayOf_alike hZ.alike Ar106.2.1) Ar106.2.2 hin107 hat107 (g := (mkF m 376 #[oR r0, oR rw, oI 0, oD 0, oV, oI 0, oI 2, oD t7, oV, s9] [(.int 0), (.ref j0), (.double 0)])) rfl rfl (hb hby d6_376) _ ?_
  show own_S p e below T103 m 377 _ [(.double x0), (.double 0)] _
  refine XS.aloadN X103.here hx rfl (hb hby d6_377) rfl rfl ?_
  show own_S p e below T103 m 378 _ [(.ref r0), (.double x0), (.double 0)] _
  refine st108 _ ?_
  show own_S p e below T108 m 381 _ [(.ref rh), (.double x0), (.double 0)] _
  refine XS.iload X108.here hx rfl (hb hby d6_381) rfl ?_
  show own_S p e below T108 m 383 #[oR r0, oR rw, oI 0, oD 0, oV, oI 0, oI 2, oD t7, oV, s9] [(.int 0), (.ref rh), (.double x0), (.double 0)] _
  refine X108.daload hx (j := (0 : Int32)) (v := (.double g0)) (by rw [e108]; exact Ar109.1) (State.isArrayOf_alike hZ.alike Ar109.2.1) Ar109.2.2 hin110 hat110 (g := (mkF m 383 #[oR r0, oR rw, oI 0, oD 0, oV, oI 0, oI 2, oD t7, oV, s9] [(.int 0), (.ref rh), (.double x0), (.double 0)])) rfl rfl (hb hby d6_383) _ ?_
  show own_S p e below T108 m 384 _ [(.double g0), (.double x0), (.double 0)] _
  refine XS.dmulS X108.here hx rfl (v := (FP.dmul x0 g0)) (hb hby d6_384) rfl hV0.1 rfl ?_
  show own_S p e below T108 m 385 _ [(.double (FP.dmul x0 g0)), (.double 0)] _
  refine XS.daddS X108.here hx rfl (v := (FP.dadd (0 : UInt64) (FP.dmul x0 g0))) (hb hby d6_385) rfl hV0.2.1 rfl ?_
  show own_S p e below T108 m 386 _ [(.double (FP.dadd (0 : UInt64) (FP.dmul x0 g0)))] _
  refine XS.dstoreN X108.here hx rfl (hb hby d6_386) rfl (l' := #[oR r0, oR rw, oI 0, .val (.double (FP.dadd (0 : UInt64) (FP.dmul x0 g0))), oV, oI 0, oI 2, oD t7, oV, s9]) rfl ?_
  refine XS.iinc X108.here hx rfl (hb hby d6_387) rfl (l' := #[oR r0, oR rw, oI 0, .val (.double (FP.dadd (0 : UInt64) (FP.dmul x0 g0))), oV, oI 1, oI 2, oD t7, oV, s9]) rfl ?_
  refine XS.goto X108.here hx rfl (pc0 := 390) (pc' := 358) rfl (hb hby d6_390) (by decide) (by decide) ?_
  refine XS.iload X108.here hx rfl (hb hby d6_358) rfl ?_
  show own_S p e below T108 m 360 _ [(.int 1)] _
  refine XS.aloadN X108.here hx rfl (hb hby d6_360) rfl rfl ?_
  show own_S p e below T108 m 361 _ [(.ref r0), (.int 1)] _
  refine st111 _ ?_
  show own_S p e below T111 m 364 _ [(.int 2), (.int 1)] _
  refine XS.icmpNo X111.here hx rfl (hb hby d6_364) rfl (tlt (by decide : (1 : Int32) < (2 : Int32))).2.1 ?_
  refine XS.dloadN X111.here hx rfl (hb hby d6_367) rfl ?_
  refine XS.aloadN X111.here hx rfl (hb hby d6_368) rfl rfl ?_
  show own_S p e below T111 m 369 #[oR r0, oR rw, oI 0, .val (.double (FP.dadd (0 : UInt64) (FP.dmul x0 g0))), oV, oI 1, oI 2, oD t7, oV, s9] [(.ref r0), (.double (FP.dadd (0 : UInt64) (FP.dmul x0 g0)))] _
  refine st112 _ ?_
  show own_S p e below T112 m 372 _ [(.ref ri), (.double (FP.dadd (0 : UInt64) (FP.dmul x0 g0)))] _
  refine XS.iloadN X112.here hx rfl (hb hby d6_372) rfl ?_
  show own_S p e below T112 m 373 _ [(.int 0), (.ref ri), (.double (FP.dadd (0 : UInt64) (FP.dmul x0 g0)))] _
  refine X112.aaload hx (j := (0 : Int32)) (v := (.ref j0)) (by rw [e112]; exact Ar104.1) (State.isArrayOf_alike hZ.alike Ar104.2.1) rfl Ar104.2.2 hin113 hat113 (g := (mkF m 373 #[oR r0, oR rw, oI 0, .val (.double (FP.dadd (0 : UInt64) (FP.dmul x0 g0))), oV, oI 1, oI 2, oD t7, oV, s9] [(.int 0), (.ref ri), (.double (FP.dadd (0 : UInt64) (FP.dmul x0 g0)))])) rfl rfl (hb hby d6_373) _ ?_
  show own_S p e below T112 m 374 _ [(.ref j0), (.double (FP.dadd (0 : UInt64) (FP.dmul x0 g0)))] _
  refine XS.iload X112.here hx rfl (hb hby d6_374) rfl ?_
  show own_S p e below T112 m 376 _ [(.int 1), (.ref j0), (.double (FP.dadd (0 : UInt64) (FP.dmul x0 g0)))] _
  refine X112.daload hx (j := (1 : Int32)) (v := (.double x1)) (by rw [e112]; exact Ar106.1) (State.isArrayOf_alike hZ.alike Ar106.2.1) Ar106.2.2 hin114 hat114 (g := (mkF m 376 #[oR r0, oR rw, oI 0, .val (.double (FP.dadd (0 : UInt64) (FP.dmul x0 g0))), oV, oI 1, oI 2, oD t7, oV, s9] [(.int 1), (.ref j0), (.double (FP.dadd (0 : UInt64) (FP.dmul x0 g0)))])) rfl rfl (hb hby d6_376) _ ?_
  show own_S p e below T112 m 377 _ [(.double x1), (.double (FP.dadd (0 : UInt64) (FP.dmul x0 g0)))] _
  refine XS.aloadN X112.here hx rfl (hb hby d6_377) rfl rfl ?_
  show own_S p e below T112 m 378 _ [(.ref r0), (.double x1), (.double (FP.dadd (0 : UInt64) (FP.dmul x0 g0)))] _
  refine st115 _ ?_
  show own_S p e below T115 m 381 #[oR r0, oR rw, oI 0, .val (.double (FP.dadd (0 : UInt64) (FP.dmul x0 g0))), oV, oI 1, oI 2, oD t7, oV, s9] [(.ref rh), (.double x1), (.double (FP.dadd (0 : UInt64) (FP.dmul x0 g0)))] _
  refine XS.iload X115.here hx rfl (hb hby d6_381) rfl ?_
  show own_S p e below T115 m 383 _ [(.int 1), (.ref rh), (.double x1), (.double (FP.dadd (0 : UInt64) (FP.dmul x0 g0)))] _
  refine X115.daload hx (j := (1 : Int32)) (v := (.double g1)) (by rw [e115]; exact Ar109.1) (State.isArrayOf_alike hZ.alike Ar109.2.1) Ar109.2.2 hin116 hat116 (g := (mkF m 383 #[oR r0, oR rw, oI 0, .val (.double (FP.dadd (0 : UInt64) (FP.dmul x0 g0))), oV, oI 1, oI 2, oD t7, oV, s9] [(.int 1), (.ref rh), (.double x1), (.double (FP.dadd (0 : UInt64) (FP.dmul x0 g0)))])) rfl rfl (hb hby d6_383) _ ?_
  show own_S p e below T115 m 384 _ [(.double g1), (.double x1), (.double (FP.dadd (0 : UInt64) (FP.dmul x0 g0)))] _
  refine XS.dmulS X115.here hx rfl (v := (FP.dmul x1 g1)) (hb hby d6_384) rfl hV0.2.2.1 rfl ?_
  show own_S p e below T115 m 385 _ [(.double (FP.dmul x1 g1)), (.double (FP.dadd (0 : UInt64) (FP.dmul x0 g0)))] _
  refine XS.daddS X115.here hx rfl (v := (FP.dadd (FP.dadd (0 : UInt64) (FP.dmul x0 g0)) (FP.dmul x1 g1))) (hb hby d6_385) rfl hV0.2.2.2.1 rfl ?_
  show own_S p e below T115 m 386 _ [(.double (FP.dadd (FP.dadd (0 : UInt64) (FP.dmul x0 g0)) (FP.dmul x1 g1)))] _
  refine reD (rfl : (FP.dadd (FP.dadd (0 : UInt64) (FP.dmul x0 g0)) (FP.dmul x1 g1)) = (own_v g0 g1 x0 x1)) ?_
  show own_S p e below T115 m 386 _ [(.double (own_v g0 g1 x0 x1))] _
  refine XS.dstoreN X115.here hx rfl (hb hby d6_386) rfl (l' := #[oR r0, oR rw, oI 0, oD (own_v g0 g1 x0 x1), oV, oI 1, oI 2, oD t7, oV, s9]) rfl ?_
  refine XS.iinc X115.here hx rfl (hb hby d6_387) rfl (l' := #[oR r0, oR rw, oI 0, oD (own_v g0 g1 x0 x1), oV, oI 2, oI 2, oD t7, oV, s9]) rfl ?_
  refine XS.goto X115.here hx rfl (pc0 := 390) (pc' := 358) rfl (hb hby d6_390) (by decide) (by decide) ?_
  refine XS.iload X115.here hx rfl (hb hby d6_358) rfl ?_
  show own_S p e below T115 m 360 _ [(.int 2)] _
  refine XS.aloadN X115.here hx rfl (hb hby d6_360) rfl rfl ?_
  show own_S p e below T115 m 361 _ [(.ref r0), (.int 2)] _
  refine st117 _ ?_
  show own_S p e below T117 m 364 _ [(.int 2), (.int 2)] _
  refine XS.icmpYes X117.here hx rfl (pc0 := 364) (pc' := 393) rfl (hb hby d6_364) rfl (flt (by decide : ¬ ((2 : Int32) < (2 : Int32)))).2.1 (by decide) (by decide) ?_
  refine XS.aloadN X117.here hx rfl (hb hby d6_393) rfl rfl ?_
  show own_S p e below T117 m 394 _ [(.ref r0)] _
  refine st118 _ ?_
  show own_S p e below T118 m 397 #[oR r0, oR rw, oI 0, oD (own_v g0 g1 x0 x1), oV, oI 2, oI 2, oD t7, oV, s9] [(.ref va)] _
  refine XS.iloadN X118.here hx rfl (hb hby d6_397) rfl ?_
  refine XS.dloadN X118.here hx rfl (hb hby d6_398) rfl ?_
  show own_S p e below T118 m 399 _ [(.double (own_v g0 g1 x0 x1)), (.int 0), (.ref va)] _
  refine st121 _ ?_
  show own_S p e below T121 m 400 _ [] _
  refine XS.iinc X121.here hx rfl (hb hby d6_400) rfl (l' := #[oR r0, oR rw, oI 1, oD (own_v g0 g1 x0 x1), oV, oI 2, oI 2, oD t7, oV, s9]) rfl ?_
  refine XS.goto X121.here hx rfl (pc0 := 403) (pc' := 345) rfl (hb hby d6_403) (by decide) (by decide) ?_
  refine XS.iloadN X121.here hx rfl (hb hby d6_345) rfl ?_
  refine XS.aloadN X121.here hx rfl (hb hby d6_346) rfl rfl ?_
  show own_S p e below T121 m 347 _ [(.ref r0), (.int 1)] _
  refine st126 _ ?_
  show own_S p e below T126 m 350 _ [(.int 2), (.int 1)] _
  refine XS.icmpNo X126.here hx rfl (hb hby d6_350) rfl (tlt (by decide : (1 : Int32) < (2 : Int32))).2.1 ?_
  refine XS.dconst0 X126.here hx rfl (v := 0) (hb hby d6_353) rfl ?_
  refine XS.dstoreN X126.here hx rfl (hb hby d6_354) rfl (l' := #[oR r0, oR rw, oI 1, oD 0, oV, oI 2, oI 2, oD t7, oV, s9]) rfl ?_
  refine XS.iconst X126.here hx rfl (hb hby d6_355) ?_
  show own_S p e below T126 m 356 _ [(.int 0)] _
  refine XS.istore X126.here hx rfl (hb hby d6_356) rfl (l' := #[oR r0, oR rw, oI 1, oD 0, oV, oI 0, oI 2, oD t7, oV, s9]) rfl ?_
  refine XS.iload X126.here hx rfl (hb hby d6_358) rfl ?_
  refine XS.aloadN X126.here hx rfl (hb hby d6_360) rfl rfl ?_
  show own_S p e below T126 m 361 _ [(.ref r0), (.int 0)] _
  refine st127 _ ?_
  show own_S p e below T127 m 364 _ [(.int 2), (.int 0)] _
  refine XS.icmpNo X127.here hx rfl (hb hby d6_364) rfl (tlt (by decide : (0 : Int32) < (2 : Int32))).2.1 ?_
  refine XS.dloadN X127.here hx rfl (hb hby d6_367) rfl ?_
  refine XS.aloadN X127.here hx rfl (hb hby d6_368) rfl rfl ?_
  show own_S p e below T127 m 369 _ [(.ref r0), (.double 0)] _
  refine st129 _ ?_
  show own_S p e below T129 m 372 #[oR r0, oR rw, oI 1, oD 0, oV, oI 0, oI 2, oD t7, oV, s9] [(.ref ri), (.double 0)] _
  refine XS.iloadN X129.here hx rfl (hb hby d6_372) rfl ?_
  show own_S p e below T129 m 373 _ [(.int 1), (.ref ri), (.double 0)] _
  refine X129.aaload hx (j := (1 : Int32)) (v := (.ref j1)) (by rw [e129]; exact Ar131.1) (State.isArrayOf_alike hZ.alike Ar131.2.1) rfl Ar131.2.2 hin132 hat132 (g := (mkF m 373 #[oR r0, oR rw, oI 1, oD 0, oV, oI 0, oI 2, oD t7, oV, s9] [(.int 1), (.ref ri), (.double 0)])) rfl rfl (hb hby d6_373) _ ?_
  show own_S p e below T129 m 374 _ [(.ref j1), (.double 0)] _
  refine XS.iload X129.here hx rfl (hb hby d6_374) rfl ?_
  show own_S p e below T129 m 376 _ [(.int 0), (.ref j1), (.double 0)] _
  refine X129.daload hx (j := (0 : Int32)) (v := (.double y0)) (by rw [e129]; exact Ar134.1) (State.isArrayOf_alike hZ.alike Ar134.2.1) Ar134.2.2 hin135 hat135 (g := (mkF m 376 #[oR r0, oR rw, oI 1, oD 0, oV, oI 0, oI 2, oD t7, oV, s9] [(.int 0), (.ref j1), (.double 0)])) rfl rfl (hb hby d6_376) _ ?_
  show own_S p e below T129 m 377 _ [(.double y0), (.double 0)] _
  refine XS.aloadN X129.here hx rfl (hb hby d6_377) rfl rfl ?_
  show own_S p e below T129 m 378 _ [(.ref r0), (.double y0), (.double 0)] _
  refine st137 _ ?_
  show own_S p e below T137 m 381 _ [(.ref rh), (.double y0), (.double 0)] _
  refine XS.iload X137.here hx rfl (hb hby d6_381) rfl ?_
  show own_S p e below T137 m 383 #[oR r0, oR rw, oI 1, oD 0, oV, oI 0, oI 2, oD t7, oV, s9] [(.int 0), (.ref rh), (.double y0), (.double 0)] _
  refine X137.daload hx (j := (0 : Int32)) (v := (.double g0)) (by rw [e137]; exact Ar139.1) (State.isArrayOf_alike hZ.alike Ar139.2.1) Ar139.2.2 hin140 hat140 (g := (mkF m 383 #[oR r0, oR rw, oI 1, oD 0, oV, oI 0, oI 2, oD t7, oV, s9] [(.int 0), (.ref rh), (.double y0), (.double 0)])) rfl rfl (hb hby d6_383) _ ?_
  show own_S p e below T137 m 384 _ [(.double g0), (.double y0), (.double 0)] _
  refine XS.dmulS X137.here hx rfl (v := (FP.dmul y0 g0)) (hb hby d6_384) rfl hV1.1 rfl ?_
  show own_S p e below T137 m 385 _ [(.double (FP.dmul y0 g0)), (.double 0)] _
  refine XS.daddS X137.here hx rfl (v := (FP.dadd (0 : UInt64) (FP.dmul y0 g0))) (hb hby d6_385) rfl hV1.2.1 rfl ?_
  show own_S p e below T137 m 386 _ [(.double (FP.dadd (0 : UInt64) (FP.dmul y0 g0)))] _
  refine XS.dstoreN X137.here hx rfl (hb hby d6_386) rfl (l' := #[oR r0, oR rw, oI 1, .val (.double (FP.dadd (0 : UInt64) (FP.dmul y0 g0))), oV, oI 0, oI 2, oD t7, oV, s9]) rfl ?_
  refine XS.iinc X137.here hx rfl (hb hby d6_387) rfl (l' := #[oR r0, oR rw, oI 1, .val (.double (FP.dadd (0 : UInt64) (FP.dmul y0 g0))), oV, oI 1, oI 2, oD t7, oV, s9]) rfl ?_
  refine XS.goto X137.here hx rfl (pc0 := 390) (pc' := 358) rfl (hb hby d6_390) (by decide) (by decide) ?_
  refine XS.iload X137.here hx rfl (hb hby d6_358) rfl ?_
  show own_S p e below T137 m 360 _ [(.int 1)] _
  refine XS.aloadN X137.here hx rfl (hb hby d6_360) rfl rfl ?_
  show own_S p e below T137 m 361 _ [(.ref r0), (.int 1)] _
  refine st141 _ ?_
  show own_S p e below T141 m 364 _ [(.int 2), (.int 1)] _
  refine XS.icmpNo X141.here hx rfl (hb hby d6_364) rfl (tlt (by decide : (1 : Int32) < (2 : Int32))).2.1 ?_
  refine XS.dloadN X141.here hx rfl (hb hby d6_367) rfl ?_
  refine XS.aloadN X141.here hx rfl (hb hby d6_368) rfl rfl ?_
  show own_S p e below T141 m 369 #[oR r0, oR rw, oI 1, .val (.double (FP.dadd (0 : UInt64) (FP.dmul y0 g0))), oV, oI 1, oI 2, oD t7, oV, s9] [(.ref r0), (.double (FP.dadd (0 : UInt64) (FP.dmul y0 g0)))] _
  refine st142 _ ?_
  show own_S p e below T142 m 372 _ [(.ref ri), (.double (FP.dadd (0 : UInt64) (FP.dmul y0 g0)))] _
  refine XS.iloadN X142.here hx rfl (hb hby d6_372) rfl ?_
  show own_S p e below T142 m 373 _ [(.int 1), (.ref ri), (.double (FP.dadd (0 : UInt64) (FP.dmul y0 g0)))] _
  refine X142.aaload hx (j := (1 : Int32)) (v := (.ref j1)) (by rw [e142]; exact Ar143.1) (State.isArrayOf_alike hZ.alike Ar143.2.1) rfl Ar143.2.2 hin144 hat144 (g := (mkF m 373 #[oR r0, oR rw, oI 1, .val (.double (FP.dadd (0 : UInt64) (FP.dmul y0 g0))), oV, oI 1, oI 2, oD t7, oV, s9] [(.int 1), (.ref ri), (.double (FP.dadd (0 : UInt64) (FP.dmul y0 g0)))])) rfl rfl (hb hby d6_373) _ ?_
  show own_S p e below T142 m 374 _ [(.ref j1), (.double (FP.dadd (0 : UInt64) (FP.dmul y0 g0)))] _
  refine XS.iload X142.here hx rfl (hb hby d6_374) rfl ?_
  show own_S p e below T142 m 376 _ [(.int 1), (.ref j1), (.double (FP.dadd (0 : UInt64) (FP.dmul y0 g0)))] _
  refine X142.daload hx (j := (1 : Int32)) (v := (.double y1)) (by rw [e142]; exact Ar134.1) (State.isArrayOf_alike hZ.alike Ar134.2.1) Ar134.2.2 hin145 hat145 (g := (mkF m 376 #[oR r0, oR rw, oI 1, .val (.double (FP.dadd (0 : UInt64) (FP.dmul y0 g0))), oV, oI 1, oI 2, oD t7, oV, s9] [(.int 1), (.ref j1), (.double (FP.dadd (0 : UInt64) (FP.dmul y0 g0)))])) rfl rfl (hb hby d6_376) _ ?_
  show own_S p e below T142 m 377 _ [(.double y1), (.double (FP.dadd (0 : UInt64) (FP.dmul y0 g0)))] _
  refine XS.aloadN X142.here hx rfl (hb hby d6_377) rfl rfl ?_
  show own_S p e below T142 m 378 _ [(.ref r0), (.double y1), (.double (FP.dadd (0 : UInt64) (FP.dmul y0 g0)))] _
  refine st146 _ ?_
  show own_S p e below T146 m 381 #[oR r0, oR rw, oI 1, .val (.double (FP.dadd (0 : UInt64) (FP.dmul y0 g0))), oV, oI 1, oI 2, oD t7, oV, s9] [(.ref rh), (.double y1), (.double (FP.dadd (0 : UInt64) (FP.dmul y0 g0)))] _
  refine XS.iload X146.here hx rfl (hb hby d6_381) rfl ?_
  show own_S p e below T146 m 383 _ [(.int 1), (.ref rh), (.double y1), (.double (FP.dadd (0 : UInt64) (FP.dmul y0 g0)))] _
  refine X146.daload hx (j := (1 : Int32)) (v := (.double g1)) (by rw [e146]; exact Ar139.1) (State.isArrayOf_alike hZ.alike Ar139.2.1) Ar139.2.2 hin147 hat147 (g := (mkF m 383 #[oR r0, oR rw, oI 1, .val (.double (FP.dadd (0 : UInt64) (FP.dmul y0 g0))), oV, oI 1, oI 2, oD t7, oV, s9] [(.int 1), (.ref rh), (.double y1), (.double (FP.dadd (0 : UInt64) (FP.dmul y0 g0)))])) rfl rfl (hb hby d6_383) _ ?_
  show own_S p e below T146 m 384 _ [(.double g1), (.double y1), (.double (FP.dadd (0 : UInt64) (FP.dmul y0 g0)))] _
  refine XS.dmulS X146.here hx rfl (v := (FP.dmul y1 g1)) (hb hby d6_384) rfl hV1.2.2.1 rfl ?_
  show own_S p e below T146 m 385 _ [(.double (FP.dmul y1 g1)), (.double (FP.dadd (0 : UInt64) (FP.dmul y0 g0)))] _
  refine XS.daddS X146.here hx rfl (v := (FP.dadd (FP.dadd (0 : UInt64) (FP.dmul y0 g0)) (FP.dmul y1 g1))) (hb hby d6_385) rfl hV1.2.2.2.1 rfl ?_
  show own_S p e below T146 m 386 _ [(.double (FP.dadd (FP.dadd (0 : UInt64) (FP.dmul y0 g0)) (FP.dmul y1 g1)))] _
  refine reD (rfl : (FP.dadd (FP.dadd (0 : UInt64) (FP.dmul y0 g0)) (FP.dmul y1 g1)) = (own_v g0 g1 y0 y1)) ?_
  show own_S p e below T146 m 386 _ [(.double (own_v g0 g1 y0 y1))] _
  refine XS.dstoreN X146.here hx rfl (hb hby d6_386) rfl (l' := #[oR r0, oR rw, oI 1, oD (own_v g0 g1 y0 y1), oV, oI 1, oI 2, oD t7, oV, s9]) rfl ?_
  refine XS.iinc X146.here hx rfl (hb hby d6_387) rfl (l' := #[oR r0, oR rw, oI 1, oD (own_v g0 g1 y0 y1), oV, oI 2, oI 2, oD t7, oV, s9]) rfl ?_
  refine XS.goto X146.here hx rfl (pc0 := 390) (pc' := 358) rfl (hb hby d6_390) (by decide) (by decide) ?_
  refine XS.iload X146.here hx rfl (hb hby d6_358) rfl ?_
  show own_S p e below T146 m 360 _ [(.int 2)] _
  refine XS.aloadN X146.here hx rfl (hb hby d6_360) rfl rfl ?_
  show own_S p e below T146 m 361 _ [(.ref r0), (.int 2)] _
  refine st148 _ ?_
  show own_S p e below T148 m 364 _ [(.int 2), (.int 2)] _
  refine XS.icmpYes X148.here hx rfl (pc0 := 364) (pc' := 393) rfl (hb hby d6_364) rfl (flt (by decide : ¬ ((2 : Int32) < (2 : Int32)))).2.1 (by decide) (by decide) ?_
  refine XS.aloadN X148.here hx rfl (hb hby d6_393) rfl rfl ?_
  show own_S p e below T148 m 394 _ [(.ref r0)] _
  refine st150 _ ?_
  show own_S p e below T150 m 397 #[oR r0, oR rw, oI 1, oD (own_v g0 g1 y0 y1), oV, oI 2, oI 2, oD t7, oV, s9] [(.ref va)] _
  refine XS.iloadN X150.here hx rfl (hb hby d6_397) rfl ?_
  refine XS.dloadN X150.here hx rfl (hb hby d6_398) rfl ?_
  show own_S p e below T150 m 399 _ [(.double (own_v g0 g1 y0 y1)), (.int 1), (.ref va)] _
  refine st153 _ ?_
  show own_S p e below T153 m 400 _ [] _
  refine XS.iinc X153.here hx rfl (hb hby d6_400) rfl (l' := #[oR r0, oR rw, oI 2, oD (own_v g0 g1 y0 y1), oV, oI 2, oI 2, oD t7, oV, s9]) rfl ?_
  refine XS.goto X153.here hx rfl (pc0 := 403) (pc' := 345) rfl (hb hby d6_403) (by decide) (by decide) ?_
  refine XS.iloadN X153.here hx rfl (hb hby d6_345) rfl ?_
  refine XS.aloadN X153.here hx rfl (hb hby d6_346) rfl rfl ?_
  show own_S p e below T153 m 347 _ [(.ref r0), (.int 2)] _
  refine st157 _ ?_
  show own_S p e below T157 m 350 _ [(.int 2), (.int 2)] _
  refine XS.icmpYes X157.here hx rfl (pc0 := 350) (pc' := 406) rfl (hb hby d6_350) rfl (flt (by decide : ¬ ((2 : Int32) < (2 : Int32)))).2.1 (by decide) (by decide) ?_
  exact kt
theorem pd3 : parseMethodDescriptor "([DD)V" = some ⟨[(.array .double), .double], none⟩ := by decide +kernel
theorem d6_15 : decode k6 15 = .ok (.iload_n 2, 1) := by decide +kernel
theorem d6_16 : decode k6 16 = .ok (.aload_n 0, 1) := by decide +kernel
theorem d6_17 : decode k6 17 = .ok (.getfield 31, 3) := by decide +kernel
theorem d6_20 : decode k6 20 = .ok (.if_icmp .ge 78, 3) := by decide +kernel
theorem d6_23 : decode k6 23 = .ok (.aload_n 0, 1) := by decide +kernel
theorem d6_24 : decode k6 24 = .ok (.getfield 42, 3) := by decide +kernel
theorem d6_27 : decode k6 27 = .ok (.iload_n 2, 1) := by decide +kernel
theorem d6_28 : decode k6 28 = .ok (.iaload, 1) := by decide +kernel
theorem d6_29 : decode k6 29 = .ok (.istore_n 3, 1) := by decide +kernel
theorem d6_30 : decode k6 30 = .ok (.iconst 0, 1) := by decide +kernel
theorem d6_31 : decode k6 31 = .ok (.istore 4, 2) := by decide +kernel
theorem d6_33 : decode k6 33 = .ok (.iload 4, 2) := by decide +kernel
theorem d6_35 : decode k6 35 = .ok (.aload_n 0, 1) := by decide +kernel
theorem d6_36 : decode k6 36 = .ok (.getfield 19, 3) := by decide +kernel
theorem d6_39 : decode k6 39 = .ok (.iload_n 3, 1) := by decide +kernel
theorem d6_40 : decode k6 40 = .ok (.aaload, 1) := by decide +kernel
theorem d6_41 : decode k6 41 = .ok (.arraylength, 1) := by decide +kernel
theorem d6_42 : decode k6 42 = .ok (.if_icmp .ge 31, 3) := by decide +kernel
theorem d6_45 : decode k6 45 = .ok (.aload_n 1, 1) := by decide +kernel
theorem d6_46 : decode k6 46 = .ok (.aload_n 0, 1) := by decide +kernel
theorem d6_47 : decode k6 47 = .ok (.getfield 19, 3) := by decide +kernel
theorem d6_50 : decode k6 50 = .ok (.iload_n 3, 1) := by decide +kernel
theorem d6_51 : decode k6 51 = .ok (.aaload, 1) := by decide +kernel
theorem d6_52 : decode k6 52 = .ok (.iload 4, 2) := by decide +kernel
theorem d6_54 : decode k6 54 = .ok (.iaload, 1) := by decide +kernel
theorem d6_55 : decode k6 55 = .ok (.aaload, 1) := by decide +kernel
theorem d6_56 : decode k6 56 = .ok (.iload_n 2, 1) := by decide +kernel
theorem d6_57 : decode k6 57 = .ok (.aload_n 0, 1) := by decide +kernel
theorem d6_58 : decode k6 58 = .ok (.getfield 24, 3) := by decide +kernel
theorem d6_61 : decode k6 61 = .ok (.iload_n 3, 1) := by decide +kernel
theorem d6_62 : decode k6 62 = .ok (.aaload, 1) := by decide +kernel
theorem d6_63 : decode k6 63 = .ok (.iload 4, 2) := by decide +kernel
theorem d6_65 : decode k6 65 = .ok (.daload, 1) := by decide +kernel
theorem d6_66 : decode k6 66 = .ok (.dastore, 1) := by decide +kernel
theorem d6_67 : decode k6 67 = .ok (.iinc 4 1, 3) := by decide +kernel
theorem d6_70 : decode k6 70 = .ok (.goto (-37), 3) := by decide +kernel
theorem d6_73 : decode k6 73 = .ok (.aload_n 0, 1) := by decide +kernel
theorem d6_74 : decode k6 74 = .ok (.getfield 46, 3) := by decide +kernel
theorem d6_77 : decode k6 77 = .ok (.iload_n 2, 1) := by decide +kernel
theorem d6_78 : decode k6 78 = .ok (.aaload, 1) := by decide +kernel
theorem d6_79 : decode k6 79 = .ok (.dconst 0, 1) := by decide +kernel
theorem d6_80 : decode k6 80 = .ok (.invokestatic 140, 3) := by decide +kernel
theorem d6_83 : decode k6 83 = .ok (.aload_n 0, 1) := by decide +kernel
theorem d6_84 : decode k6 84 = .ok (.getfield 46, 3) := by decide +kernel
theorem d6_87 : decode k6 87 = .ok (.iload_n 2, 1) := by decide +kernel
theorem d6_88 : decode k6 88 = .ok (.aaload, 1) := by decide +kernel
theorem d6_89 : decode k6 89 = .ok (.iload_n 2, 1) := by decide +kernel
theorem d6_90 : decode k6 90 = .ok (.dconst 1, 1) := by decide +kernel
theorem d6_91 : decode k6 91 = .ok (.dastore, 1) := by decide +kernel
theorem d6_92 : decode k6 92 = .ok (.iinc 2 1, 3) := by decide +kernel
theorem d6_95 : decode k6 95 = .ok (.goto (-80), 3) := by decide +kernel
set_option maxRecDepth 65536 in
set_option maxHeartbeats 40000000 in
theorem own_X01 (l : Launch) (Z : State) (a0 : Array Value) (hw : own_HW Z a0) (r0 : Addr) (rw : Addr) (u0 : Addr) (u1 : Addr) (ri : Addr) (i0 : Addr) (i1 : Addr) (er : Addr) (ev : Addr) (ba : Addr) (e1 : Addr) (e2 : Addr) (f1 : Addr) (f2 : Addr) (uP : Addr) (kw : ClassId) (ku : ClassId) (kri : ClassId) (ki : ClassId) (ker : ClassId) (kev : ClassId) (kba : ClassId) (ke : ClassId) (kf : ClassId) (wE : Value) (wF : Value) (wb1 : Value) (pr0 : Int32) (va0 : UInt64) (m00 : UInt64) (m01 : UInt64) (z0 : UInt64) (z1 : UInt64) (h0 : Heap) (n0 : Nat) (Z0 : n0 ≤ h0.size) (F_rows_r0 : Fld Z h0 r0 own_K1 "rows" "I" (.int 2)) (F_basic_r0 : Fld Z h0 r0 own_K1 "basic" "[I" (.ref ba)) (F_entryRows_r0 : Fld Z h0 r0 own_K1 "entryRows" "[[I" (.ref er)) (F_entryValues_r0 : Fld Z h0 r0 own_K1 "entryValues" "[[D" (.ref ev)) (F_inverse_r0 : Fld Z h0 r0 own_K1 "inverse" "[[D" (.ref ri)) (V_rw : Arv Z h0 rw kw (.array .double) (2 : Int32) [(.ref u0), (.ref u1)] .null) (V_er : Arv Z h0 er ker (.array .int) (16 : Int32) [wE, (.ref e1), (.ref e2)] .null) (V_ev : Arv Z h0 ev kev (.array .double) (16 : Int32) [wF, (.ref f1), (.ref f2)] .null) (V_ba : Arv Z h0 ba kba .int (2 : Int32) [(.int 1), wb1] (.int 0)) (V_ri : Arv Z h0 ri kri (.array .double) (2 : Int32) [(.ref i0), (.ref i1)] .null) (V_e1 : Arv Z h0 e1 ke .int (1 : Int32) [(.int pr0)] (.int 0)) (V_f1 : Arv Z h0 f1 kf .double (1 : Int32) [(.double va0)] (.double 0)) (V_i0 : Arv Z h0 i0 ki .double (2 : Int32) [(.double z0), (.double z1)] (.double 0)) (V_uP : Arv Z h0 uP ku .double (2 : Int32) [(.double m00), (.double m01)] (.double 0)) (E_r0 : Exa Z h0 r0 own_K1) (E_rw : Exa Z h0 rw "[[D") (E_er : Exa Z h0 er "[[I") (E_ev : Exa Z h0 ev "[[D") (E_ba : Exa Z h0 ba "[I") (E_ri : Exa Z h0 ri "[[D") (E_e1 : Exa Z h0 e1 "[I") (E_f1 : Exa Z h0 f1 "[D") (E_i0 : Exa Z h0 i0 "[D") (E_uP : Exa Z h0 uP "[D") (g_uP : n0 ≤ uP) (g_i0 : n0 ≤ i0) (ne_i0_uP : i0 ≠ uP) (ne_f1_uP : f1 ≠ uP) (hi0 : ¬ pr0 < (0 : Int32) ∧ pr0 < (2 : Int32)) (hg0 : ([.ref u0, .ref u1] : List Value).getD pr0.toNatClampNeg .null = .ref uP)
    {p : Program} {e : Env} {s : State} {m : MethodId} {args : Array Value} {below : List Frame} {meth : Method} {c : Code} {s₁ : State} {Lc : List Loc} (hx : p.tables.exec = Jvm.exec) (hby : c.code = prog_41_method_12_code) (hml : c.maxLocals = 10) (hZ : Z.Warmed39 s.vm) (hown : s.vm.findClass own_K1 = some m.cls) (hnm : meth.name = "refresh") (X0 : Stand p l e ({ frames := 1, cells := 3, slots := 6, locals := 40 } : Room) s m args below meth c s₁ Lc 3 6) (e0 : s₁.heap = h0) (N0 : Fr n0 Lc) :
    ∃ T : State, ∃ L : List Loc, Stand p l e ({ frames := 1, cells := 3, slots := 6, locals := 40 } : Room) s m args below meth c T L 3 6 ∧ Fr n0 L ∧ (Keep h0 T.heap [uP, i0]) ∧ (Arv Z T.heap i0 ki .double (2 : Int32) [(.double 4607182418800017408), (.double 0)] (.double 0)) ∧ (Arv Z T.heap uP ku .double (2 : Int32) [(.double va0), (.double m01)] (.double 0)) ∧ ∀ t, Steps p.tables e below (T.setTop (mkF m 15 #[oR r0, oR rw, oI 1, oI 1, oI 1, oU, oU, oU, oU, oU] [])) t → Steps p.tables e below (s₁.setTop (mkF m 15 #[oR r0, oR rw, oI 0, oU, oU, oU, oU, oU, oU, oU] [])) t := by
  obtain ⟨T101, X101, e101, st101⟩ := getF X0 hx hZ hown (host := "") (Or.inl (own_w hw 30 rfl)) Via.refl e0 F_rows_r0 (g := (mkF m 17 #[oR r0, oR rw, oI 0, oU, oU, oU, oU, oU, oU, oU] [(.ref r0), (.int 0)])) rfl rfl (hb hby d6_17)
  obtain ⟨T102, X102, e102, st102⟩ := getF X101 hx hZ hown (host := "") (Or.inl (own_w hw 42 rfl)) Via.refl e101 F_basic_r0 (g := (mkF m 24 #[oR r0, oR rw, oI 0, oU, oU, oU, oU, oU, oU, oU] [(.ref r0)])) rfl rfl (hb hby d6_24)
  obtain ⟨cl103, Ar103, qk103, Sz103, Nz103, Hh103, Gg103⟩ := id V_ba
  have hin104 : ¬ ((0 : Int32) < 0 ∨ cl103.slots.size ≤ ((0 : Int32)).toNatClampNeg) := inb_of Sz103 ⟨by decide, by decide⟩
  have hat104 : cl103.slots[((0 : Int32)).toNatClampNeg]? = some (.int 1) := Has.at Hh103 hin104 rfl
  obtain ⟨T105, X105, e105, st105⟩ := getF X102 hx hZ hown (host := "") (Or.inl (own_w hw 21 rfl)) Via.refl e102 F_entryRows_r0 (g := (mkF m 36 #[oR r0, oR rw, oI 0, oI 1, oI 0, oU, oU, oU, oU, oU] [(.ref r0), (.int 0)])) rfl rfl (hb hby d6_36)
  obtain ⟨cl106, Ar106, qk106, Sz106, Nz106, Hh106, Gg106⟩ := id V_er
  have hin107 : ¬ ((1 : Int32) < 0 ∨ cl106.slots.size ≤ ((1 : Int32)).toNatClampNeg) := inb_of Sz106 ⟨by decide, by decide⟩
  have hat107 : cl106.slots[((1 : Int32)).toNatClampNeg]? = some (.ref e1) := Has.at Hh106 hin107 rfl
  obtain ⟨cl108, Ar108, qk108, Sz108, Nz108, Hh108, Gg108⟩ := id V_e1
  obtain ⟨T109, X109, e109, st109⟩ := getF X105 hx hZ hown (host := "") (Or.inl (own_w hw 21 rfl)) Via.refl e105 F_entryRows_r0 (g := (mkF m 47 #[oR r0, oR rw, oI 0, oI 1, oI 0, oU, oU, oU, oU, oU] [(.ref r0), (.ref rw)])) rfl rfl (hb hby d6_47)
  have hin110 : ¬ ((1 : Int32) < 0 ∨ cl106.slots.size ≤ ((1 : Int32)).toNatClampNeg) := inb_of Sz106 ⟨by decide, by decide⟩
  have hat110 : cl106.slots[((1 : Int32)).toNatClampNeg]? = some (.ref e1) := Has.at Hh106 hin110 rfl
  have hin111 : ¬ ((0 : Int32) < 0 ∨ cl108.slots.size ≤ ((0 : Int32)).toNatClampNeg) := inb_of Sz108 ⟨by decide, by decide⟩
  have hat111 : cl108.slots[((0 : Int32)).toNatClampNeg]? = some (.int pr0) := Has.at Hh108 hin111 rfl
  obtain ⟨cl112, Ar112, qk112, Sz112, Nz112, Hh112, Gg112⟩ := id V_rw
  have hin113 : ¬ (pr0 < 0 ∨ cl112.slots.size ≤ (pr0).toNatClampNeg) := inb_of Sz112 hi0
  have hat113 : cl112.slots[(pr0).toNatClampNeg]? = some (.ref uP) := Has.at Hh112 hin113 hg0
  obtain ⟨T114, X114, e114, st114⟩ := getF X109 hx hZ hown (host := "") (Or.inl (own_w hw 25 rfl)) Via.refl e109 F_entryValues_r0 (g := (mkF m 58 #[oR r0, oR rw, oI 0, oI 1, oI 0, oU, oU, oU, oU, oU] [(.ref r0), (.int 0), (.ref uP)])) rfl rfl (hb hby d6_58)
  obtain ⟨cl115, Ar115, qk115, Sz115, Nz115, Hh115, Gg115⟩ := id V_ev
  have hin116 : ¬ ((1 : Int32) < 0 ∨ cl115.slots.size ≤ ((1 : Int32)).toNatClampNeg) := inb_of Sz115 ⟨by decide, by decide⟩
  have hat116 : cl115.slots[((1 : Int32)).toNatClampNeg]? = some (.ref f1) := Has.at Hh115 hin116 rfl
  obtain ⟨cl117, Ar117, qk117, Sz117, Nz117, Hh117, Gg117⟩ := id V_f1
  have hin118 : ¬ ((0 : Int32) < 0 ∨ cl117.slots.size ≤ ((0 : Int32)).toNatClampNeg) := inb_of Sz117 ⟨by decide, by decide⟩
  have hat118 : cl117.slots[((0 : Int32)).toNatClampNeg]? = some (.double va0) := Has.at Hh117 hin118 rfl
  obtain ⟨cl119, Ar119, qk119, Sz119, Nz119, Hh119, Gg119⟩ := id V_uP
  have hin120 : ¬ ((0 : Int32) < 0 ∨ cl119.slots.size ≤ ((0 : Int32)).toNatClampNeg) := inb_of Sz119 ⟨by decide, by decide⟩
  obtain ⟨T121, h121, X121, e121, W121, st121⟩ := stD X114 hx hZ e114 Ar119 (j := (0 : Int32)) hin120 (g := (mkF m 66 #[oR r0, oR rw, oI 0, oI 1, oI 0, oU, oU, oU, oU, oU] [(.double va0), (.int 0), (.ref uP)])) rfl rfl (hb hby d6_66)
  have Va121 := Arv.set Ar119 qk119 Sz119 Nz119 Hh119 Gg119 rfl W121 0 rfl (Nat.le_of_ble_eq_true rfl)
  have N121 := Fr.snoc X121 N0 g_uP
  have ZZ122 : n0 ≤ h121.size := Nat.le_trans Z0 (Nat.le_of_eq W121.size.symm)
  have KK123 : Keep h0 h121 [uP, i0] := (Keep.refl h0 [uP, i0]).wr W121 (Or.inl (List.mem_of_getElem? (i := 0) rfl))
  have nq124 : r0 ≠ uP := (ne_exa (E_r0.wr W121) (E_uP.wr W121) (by decide))
  have Fc125 := (F_entryRows_r0.other W121 (Or.inl nq124))
  obtain ⟨T126, X126, e126, st126⟩ := getF X121 hx hZ hown (host := "") (Or.inl (own_w hw 21 rfl)) Via.refl e121 Fc125 (g := (mkF m 36 #[oR r0, oR rw, oI 0, oI 1, oI 1, oU, oU, oU, oU, oU] [(.ref r0), (.int 1)])) rfl rfl (hb hby d6_36)
  have nq127 : er ≠ uP := (ne_exa (E_er.wr W121) (E_uP.wr W121) (by decide))
  obtain ⟨cl128, Ar128, qk128, Sz128, Nz128, Hh128, Gg128⟩ := id (V_er.other W121 nq127)
  have hin129 : ¬ ((1 : Int32) < 0 ∨ cl128.slots.size ≤ ((1 : Int32)).toNatClampNeg) := inb_of Sz128 ⟨by decide, by decide⟩
  have hat129 : cl128.slots[((1 : Int32)).toNatClampNeg]? = some (.ref e1) := Has.at Hh128 hin129 rfl
  have nq130 : e1 ≠ uP := (ne_exa (E_e1.wr W121) (E_uP.wr W121) (by decide))
  obtain ⟨cl131, Ar131, qk131, Sz131, Nz131, Hh131, Gg131⟩ := id (V_e1.other W121 nq130)
  have Fc132 := (F_inverse_r0.other W121 (Or.inl nq124))
  obtain ⟨T133, X133, e133, st133⟩ := getF X126 hx hZ hown (host := "") (Or.inl (own_w hw 45 rfl)) Via.refl e126 Fc132 (g := (mkF m 74 #[oR r0, oR rw, oI 0, oI 1, oI 1, oU, oU, oU, oU, oU] [(.ref r0)])) rfl rfl (hb hby d6_74)
  have nq134 : ri ≠ uP := (ne_exa (E_ri.wr W121) (E_uP.wr W121) (by decide))
  obtain ⟨cl135, Ar135, qk135, Sz135, Nz135, Hh135, Gg135⟩ := id (V_ri.other W121 nq134)
  have hin136 : ¬ ((0 : Int32) < 0 ∨ cl135.slots.size ≤ ((0 : Int32)).toNatClampNeg) := inb_of Sz135 ⟨by decide, by decide⟩
  have hat136 : cl135.slots[((0 : Int32)).toNatClampNeg]? = some (.ref i0) := Has.at Hh135 hin136 rfl
  have Fc137 := (V_i0.other W121 ne_i0_uP)
  obtain ⟨_, T138, L138, X138, hQ138, st138⟩ := own_cS X133 hx hZ hw hown (W := 0) (rmm7 l Z a0 hw [] i0 ki z0 z1 h121 n0 ZZ122 Fc137 g_i0) (by decide) (by decide) (by decide) 71 rfl 72 rfl 73 rfl 74 rfl e133 (g := (mkF m 80 #[oR r0, oR rw, oI 0, oI 1, oI 1, oU, oU, oU, oU, oU] [(.double 0), (.ref i0)])) rfl (by rw [hml]; rfl) (argsL := [(.ref i0), (.double 0)]) (rest := []) (lenOf pd3 rfl) rfl (Nat.le_of_eq rfl) (hb hby d6_80) rfl (cN := 3) rfl (by decide) (sN := 6) rfl (by decide)
  obtain ⟨rfl, Nq138, P138_0, P138_1⟩ := hQ138
  have N138 := Fr.app N121 Nq138
  have ZZ139 : n0 ≤ T138.heap.size := Nat.le_trans ZZ122 P138_0.1
  have KK140 : Keep h0 T138.heap [uP, i0] := Keep.trans KK123 P138_0 (allS (Or.inl (List.mem_of_getElem? (i := 1) rfl)) all0)
  have Fc141 := (E_r0.keep KK140)
  have Fc142 := ((E_i0.wr W121).keep P138_0)
  have nq143 : r0 ≠ i0 := (ne_exa Fc141 Fc142 (by decide))
  have Fc144 := (Fc132.keep P138_0 (ninS nq143 nin0))
  obtain ⟨T145, X145, e145, st145⟩ := getF X138 hx hZ hown (host := "") (Or.inl (own_w hw 45 rfl)) Via.refl rfl Fc144 (g := (mkF m 84 #[oR r0, oR rw, oI 0, oI 1, oI 1, oU, oU, oU, oU, oU] [(.ref r0)])) rfl rfl (hb hby d6_84)
  have Fc146 := (E_ri.keep KK140)
  have nq147 : ri ≠ i0 := (ne_exa Fc146 Fc142 (by decide))
  have Fc148 := (V_ri.keep KK140 (ninS nq134 (ninS nq147 nin0)))
  obtain ⟨cl149, Ar149, qk149, Sz149, Nz149, Hh149, Gg149⟩ := id Fc148
  have hin150 : ¬ ((0 : Int32) < 0 ∨ cl149.slots.size ≤ ((0 : Int32)).toNatClampNeg) := inb_of Sz149 ⟨by decide, by decide⟩
  have hat150 : cl149.slots[((0 : Int32)).toNatClampNeg]? = some (.ref i0) := Has.at Hh149 hin150 rfl
  obtain ⟨cl151, Ar151, qk151, Sz151, Nz151, Hh151, Gg151⟩ := id P138_1
  have hin152 : ¬ ((0 : Int32) < 0 ∨ cl151.slots.size ≤ ((0 : Int32)).toNatClampNeg) := inb_of Sz151 ⟨by decide, by decide⟩
  obtain ⟨T153, h153, X153, e153, W153, st153⟩ := stD X145 hx hZ e145 Ar151 (j := (0 : Int32)) hin152 (g := (mkF m 91 #[oR r0, oR rw, oI 0, oI 1, oI 1, oU, oU, oU, oU, oU] [(.double 4607182418800017408), (.int 0), (.ref i0)])) rfl rfl (hb hby d6_91)
  have Va153 := Arv.set Ar151 qk151 Sz151 Nz151 Hh151 Gg151 rfl W153 0 rfl (Nat.le_of_ble_eq_true rfl)
  have N153 := Fr.snoc X153 N138 g_i0
  have ZZ154 : n0 ≤ h153.size := Nat.le_trans ZZ139 (Nat.le_of_eq W153.size.symm)
  have KK155 : Keep h0 h153 [uP, i0] := KK140.wr W153 (Or.inl (List.mem_of_getElem? (i := 1) rfl))
  refine ⟨_, _, X153, N153, (by rw [e153]; exact KK155), (by rw [e153]; exact Va153), (by rw [e153]; exact ((Va121.keep P138_0 (ninS (Ne.symm ne_i0_uP) nin0)).other W153 (Ne.symm ne_i0_uP))), fun t kt => ?_⟩
  show own_S p e below s₁ m 15 #[oR r0, oR rw, oI 0, oU, oU, oU, oU, oU, oU, oU] [] _
  refine XS.iloadN X0.here hx rfl (hb hby d6_15) rfl ?_
  refine XS.aloadN X0.here hx rfl (hb hby d6_16) rfl rfl ?_
  show own_S p e below s₁ m 17 _ [(.ref r0), (.int 0)] _
  refine st101 _ ?_
  show own_S p e below T101 m 20 _ [(.int 2), (.int 0)] _
  refine XS.icmpNo X101.here hx rfl (hb hby d6_20) rfl (tlt (by decide : (0 : Int32) < (2 : Int32))).2.1 ?_
  refine XS.aloadN X101.here hx rfl (hb hby d6_23) rfl rfl ?_
  show own_S p e below T101 m 24 _ [(.ref r0)] _
  refine st102 _ ?_
  show own_S p e below T102 m 27 _ [(.ref ba)] _
  refine XS.iloadN X102.here hx rfl (hb hby d6_27) rfl ?_
  show own_S p e below T102 m 28 #[oR r0, oR rw, oI 0, oU, oU, oU, oU, oU, oU, oU] [(.int 0), (.ref ba)] _
  refine X102.iaload hx (j := (0 : Int32)) (v := (.int 1)) (by rw [e102]; exact Ar103.1) (State.isArrayOf_alike hZ.alike Ar103.2.1) Ar103.2.2 hin104 hat104 (g := (mkF m 28 #[oR r0, oR rw, oI 0, oU, oU, oU, oU, oU, oU, oU] [(.int 0), (.ref ba)])) rfl rfl (hb hby d6_28) _ ?_
  show own_S p e below T102 m 29 _ [(.int 1)] _
  refine XS.istoreN X102.here hx rfl (hb hby d6_29) rfl (l' := #[oR r0, oR rw, oI 0, oI 1, oU, oU, oU, oU, oU, oU]) rfl ?_
  refine XS.iconst X102.here hx rfl (hb hby d6_30) ?_
  refine XS.istore X102.here hx rfl (hb hby d6_31) rfl (l' := #[oR r0, oR rw, oI 0, oI 1, oI 0, oU, oU, oU, oU, oU]) rfl ?_
  refine XS.iload X102.here hx rfl (hb hby d6_33) rfl ?_
  show own_S p e below T102 m 35 _ [(.int 0)] _
  refine XS.aloadN X102.here hx rfl (hb hby d6_35) rfl rfl ?_
  show own_S p e below T102 m 36 _ [(.ref r0), (.int 0)] _
  refine st105 _ ?_
  show own_S p e below T105 m 39 _ [(.ref er), (.int 0)] _
  refine XS.iloadN X105.here hx rfl (hb hby d6_39) rfl ?_
  show own_S p e below T105 m 40 _ [(.int 1), (.ref er), (.int 0)] _
  refine X105.aaload hx (j := (1 : Int32)) (v := (.ref e1)) (by rw [e105]; exact Ar106.1) (State.isArrayOf_alike hZ.alike Ar106.2.1) rfl Ar106.2.2 hin107 hat107 (g := (mkF m 40 #[oR r0, oR rw, oI 0, oI 1, oI 0, oU, oU, oU, oU, oU] [(.int 1), (.ref er), (.int 0)])) rfl rfl (hb hby d6_40) _ ?_
  show own_S p e below T105 m 41 _ [(.ref e1), (.int 0)] _
  refine X105.arraylength hx (by rw [e105]; exact Ar108.1) (State.isArrayOf_alike hZ.alike Ar108.2.1) (g := (mkF m 41 #[oR r0, oR rw, oI 0, oI 1, oI 0, oU, oU, oU, oU, oU] [(.ref e1), (.int 0)])) rfl rfl (hb hby d6_41) _ ?_
  rw [len_of Sz108 Nz108]
  show own_S p e below T105 m 42 _ [(.int 1), (.int 0)] _
  refine XS.icmpNo X105.here hx rfl (hb hby d6_42) rfl (tlt (by decide : (0 : Int32) < (1 : Int32))).2.1 ?_
  refine XS.aloadN X105.here hx rfl (hb hby d6_45) rfl rfl ?_
  refine XS.aloadN X105.here hx rfl (hb hby d6_46) rfl rfl ?_
  show own_S p e below T105 m 47 _ [(.ref r0), (.ref rw)] _
  refine st109 _ ?_
  show own_S p e below T109 m 50 _ [(.ref er), (.ref rw)] _
  refine XS.iloadN X109.here hx rfl (hb hby d6_50) rfl ?_
  show own_S p e below T109 m 51 _ [(.int 1), (.ref er), (.ref rw)] _
  refine X109.aaload hx (j := (1 : Int32)) (v := (.ref e1)) (by rw [e109]; exact Ar106.1) (State.isArrayOf_alike hZ.alike Ar106.2.1) rfl Ar106.2.2 hin110 hat110 (g := (mkF m 51 #[oR r0, oR rw, oI 0, oI 1, oI 0, oU, oU, oU, oU, oU] [(.int 1), (.ref er), (.ref rw)])) rfl rfl (hb hby d6_51) _ ?_
  show own_S p e below T109 m 52 _ [(.ref e1), (.ref rw)] _
  refine XS.iload X109.here hx rfl (hb hby d6_52) rfl ?_
  show own_S p e below T109 m 54 _ [(.int 0), (.ref e1), (.ref rw)] _
  refine X109.iaload hx (j := (0 : Int32)) (v := (.int pr0)) (by rw [e109]; exact Ar108.1) (State.isArrayOf_alike hZ.alike Ar108.2.1) Ar108.2.2 hin111 hat111 (g := (mkF m 54 #[oR r0, oR rw, oI 0, oI 1, oI 0, oU, oU, oU, oU, oU] [(.int 0), (.ref e1), (.ref rw)])) rfl rfl (hb hby d6_54) _ ?_
  show own_S p e below T109 m 55 #[oR r0, oR rw, oI 0, oI 1, oI 0, oU, oU, oU, oU, oU] [(.int pr0), (.ref rw)] _
  refine X109.aaload hx (j := pr0) (v := (.ref uP)) (by rw [e109]; exact Ar112.1) (State.isArrayOf_alike hZ.alike Ar112.2.1) rfl Ar112.2.2 hin113 hat113 (g := (mkF m 55 #[oR r0, oR rw, oI 0, oI 1, oI 0, oU, oU, oU, oU, oU] [(.int pr0), (.ref rw)])) rfl rfl (hb hby d6_55) _ ?_
  show own_S p e below T109 m 56 _ [(.ref uP)] _
  refine XS.iloadN X109.here hx rfl (hb hby d6_56) rfl ?_
  refine XS.aloadN X109.here hx rfl (hb hby d6_57) rfl rfl ?_
  show own_S p e below T109 m 58 _ [(.ref r0), (.int 0), (.ref uP)] _
  refine st114 _ ?_
  show own_S p e below T114 m 61 _ [(.ref ev), (.int 0), (.ref uP)] _
  refine XS.iloadN X114.here hx rfl (hb hby d6_61) rfl ?_
  show own_S p e below T114 m 62 _ [(.int 1), (.ref ev), (.int 0), (.ref uP)] _
  refine X114.aaload hx (j := (1 : Int32)) (v := (.ref f1)) (by rw [e114]; exact Ar115.1) (State.isArrayOf_alike hZ.alike Ar115.2.1) rfl Ar115.2.2 hin116 hat116 (g := (mkF m 62 #[oR r0, oR rw, oI 0, oI 1, oI 0, oU, oU, oU, oU, oU] [(.int 1), (.ref ev), (.int 0), (.ref uP)])) rfl rfl (hb hby d6_62) _ ?_
  show own_S p e below T114 m 63 _ [(.ref f1), (.int 0), (.ref uP)] _
  refine XS.iload X114.here hx rfl (hb hby d6_63) rfl ?_
  show own_S p e below T114 m 65 #[oR r0, oR rw, oI 0, oI 1, oI 0, oU, oU, oU, oU, oU] [(.int 0), (.ref f1), (.int 0), (.ref uP)] _
  refine X114.daload hx (j := (0 : Int32)) (v := (.double va0)) (by rw [e114]; exact Ar117.1) (State.isArrayOf_alike hZ.alike Ar117.2.1) Ar117.2.2 hin118 hat118 (g := (mkF m 65 #[oR r0, oR rw, oI 0, oI 1, oI 0, oU, oU, oU, oU, oU] [(.int 0), (.ref f1), (.int 0), (.ref uP)])) rfl rfl (hb hby d6_65) _ ?_
  show own_S p e below T114 m 66 _ [(.double va0), (.int 0), (.ref uP)] _
  refine st121 _ ?_
  show own_S p e below T121 m 67 _ [] _
  refine XS.iinc X121.here hx rfl (hb hby d6_67) rfl (l' := #[oR r0, oR rw, oI 0, oI 1, oI 1, oU, oU, oU, oU, oU]) rfl ?_
  refine XS.goto X121.here hx rfl (pc0 := 70) (pc' := 33) rfl (hb hby d6_70) (by decide) (by decide) ?_
  refine XS.iload X121.here hx rfl (hb hby d6_33) rfl ?_
  refine XS.aloadN X121.here hx rfl (hb hby d6_35) rfl rfl ?_
  show own_S p e below T121 m 36 _ [(.ref r0), (.int 1)] _
  refine st126 _ ?_
  show own_S p e below T126 m 39 _ [(.ref er), (.int 1)] _
  refine XS.iloadN X126.here hx rfl (hb hby d6_39) rfl ?_
  show own_S p e below T126 m 40 _ [(.int 1), (.ref er), (.int 1)] _
  refine X126.aaload hx (j := (1 : Int32)) (v := (.ref e1)) (by rw [e126]; exact Ar128.1) (State.isArrayOf_alike hZ.alike Ar128.2.1) rfl Ar128.2.2 hin129 hat129 (g := (mkF m 40 #[oR r0, oR rw, oI 0, oI 1, oI 1, oU, oU, oU, oU, oU] [(.int 1), (.ref er), (.int 1)])) rfl rfl (hb hby d6_40) _ ?_
  show own_S p e below T126 m 41 _ [(.ref e1), (.int 1)] _
  refine X126.arraylength hx (by rw [e126]; exact Ar131.1) (State.isArrayOf_alike hZ.alike Ar131.2.1) (g := (mkF m 41 #[oR r0, oR rw, oI 0, oI 1, oI 1, oU, oU, oU, oU, oU] [(.ref e1), (.int 1)])) rfl rfl (hb hby d6_41) _ ?_
  rw [len_of Sz131 Nz131]
  show own_S p e below T126 m 42 #[oR r0, oR rw, oI 0, oI 1, oI 1, oU, oU, oU, oU, oU] [(.int 1), (.int 1)] _
  refine XS.icmpYes X126.here hx rfl (pc0 := 42) (pc' := 73) rfl (hb hby d6_42) rfl (flt (by decide : ¬ ((1 : Int32) < (1 : Int32)))).2.1 (by decide) (by decide) ?_
  refine XS.aloadN X126.here hx rfl (hb hby d6_73) rfl rfl ?_
  show own_S p e below T126 m 74 _ [(.ref r0)] _
  refine st133 _ ?_
  show own_S p e below T133 m 77 _ [(.ref ri)] _
  refine XS.iloadN X133.here hx rfl (hb hby d6_77) rfl ?_
  show own_S p e below T133 m 78 _ [(.int 0), (.ref ri)] _
  refine X133.aaload hx (j := (0 : Int32)) (v := (.ref i0)) (by rw [e133]; exact Ar135.1) (State.isArrayOf_alike hZ.alike Ar135.2.1) rfl Ar135.2.2 hin136 hat136 (g := (mkF m 78 #[oR r0, oR rw, oI 0, oI 1, oI 1, oU, oU, oU, oU, oU] [(.int 0), (.ref ri)])) rfl rfl (hb hby d6_78) _ ?_
  show own_S p e below T133 m 79 _ [(.ref i0)] _
  refine XS.dconst0 X133.here hx rfl (v := 0) (hb hby d6_79) rfl ?_
  show own_S p e below T133 m 80 _ [(.double 0), (.ref i0)] _
  refine st138.trans ?_
  show own_S p e below T138 m 83 #[oR r0, oR rw, oI 0, oI 1, oI 1, oU, oU, oU, oU, oU] [] _
  refine XS.aloadN X138.here hx rfl (hb hby d6_83) rfl rfl ?_
  show own_S p e below T138 m 84 _ [(.ref r0)] _
  refine st145 _ ?_
  show own_S p e below T145 m 87 _ [(.ref ri)] _
  refine XS.iloadN X145.here hx rfl (hb hby d6_87) rfl ?_
  show own_S p e below T145 m 88 _ [(.int 0), (.ref ri)] _
  refine X145.aaload hx (j := (0 : Int32)) (v := (.ref i0)) (by rw [e145]; exact Ar149.1) (State.isArrayOf_alike hZ.alike Ar149.2.1) rfl Ar149.2.2 hin150 hat150 (g := (mkF m 88 #[oR r0, oR rw, oI 0, oI 1, oI 1, oU, oU, oU, oU, oU] [(.int 0), (.ref ri)])) rfl rfl (hb hby d6_88) _ ?_
  show own_S p e below T145 m 89 _ [(.ref i0)] _
  refine XS.iloadN X145.here hx rfl (hb hby d6_89) rfl ?_
  refine XS.dconst1 X145.here hx rfl (v := 4607182418800017408) (hb hby d6_90) rfl ?_
  show own_S p e below T145 m 91 _ [(.double 4607182418800017408), (.int 0), (.ref i0)] _
  refine st153 _ ?_
  show own_S p e below T153 m 92 #[oR r0, oR rw, oI 0, oI 1, oI 1, oU, oU, oU, oU, oU] [] _
  refine XS.iinc X153.here hx rfl (hb hby d6_92) rfl (l' := #[oR r0, oR rw, oI 1, oI 1, oI 1, oU, oU, oU, oU, oU]) rfl ?_
  refine XS.goto X153.here hx rfl (pc0 := 95) (pc' := 15) rfl (hb hby d6_95) (by decide) (by decide) ?_
  exact kt
set_option maxRecDepth 65536 in
set_option maxHeartbeats 40000000 in
theorem own_X02 (l : Launch) (Z : State) (a0 : Array Value) (hw : own_HW Z a0) (r0 : Addr) (rw : Addr) (u0 : Addr) (u1 : Addr) (ri : Addr) (i0 : Addr) (i1 : Addr) (er : Addr) (ev : Addr) (ba : Addr) (e1 : Addr) (e2 : Addr) (f1 : Addr) (f2 : Addr) (uP : Addr) (uQ : Addr) (kw : ClassId) (ku : ClassId) (kri : ClassId) (ki : ClassId) (ker : ClassId) (kev : ClassId) (kba : ClassId) (ke : ClassId) (kf : ClassId) (wE : Value) (wF : Value) (wb1 : Value) (pr0 : Int32) (pr1 : Int32) (va0 : UInt64) (va1 : UInt64) (m00 : UInt64) (m01 : UInt64) (m10 : UInt64) (m11 : UInt64) (z0 : UInt64) (z1 : UInt64) (h0 : Heap) (n0 : Nat) (Z0 : n0 ≤ h0.size) (F_rows_r0 : Fld Z h0 r0 own_K1 "rows" "I" (.int 2)) (F_basic_r0 : Fld Z h0 r0 own_K1 "basic" "[I" (.ref ba)) (F_entryRows_r0 : Fld Z h0 r0 own_K1 "entryRows" "[[I" (.ref er)) (F_entryValues_r0 : Fld Z h0 r0 own_K1 "entryValues" "[[D" (.ref ev)) (F_inverse_r0 : Fld Z h0 r0 own_K1 "inverse" "[[D" (.ref ri)) (V_rw : Arv Z h0 rw kw (.array .double) (2 : Int32) [(.ref u0), (.ref u1)] .null) (V_er : Arv Z h0 er ker (.array .int) (16 : Int32) [wE, (.ref e1), (.ref e2)] .null) (V_ev : Arv Z h0 ev kev (.array .double) (16 : Int32) [wF, (.ref f1), (.ref f2)] .null) (V_ba : Arv Z h0 ba kba .int (2 : Int32) [(.int 2), wb1] (.int 0)) (V_ri : Arv Z h0 ri kri (.array .double) (2 : Int32) [(.ref i0), (.ref i1)] .null) (V_e2 : Arv Z h0 e2 ke .int (2 : Int32) [(.int pr0), (.int pr1)] (.int 0)) (V_f2 : Arv Z h0 f2 kf .double (2 : Int32) [(.double va0), (.double va1)] (.double 0)) (V_i0 : Arv Z h0 i0 ki .double (2 : Int32) [(.double z0), (.double z1)] (.double 0)) (V_uP : Arv Z h0 uP ku .double (2 : Int32) [(.double m00), (.double m01)] (.double 0)) (V_uQ : Arv Z h0 uQ ku .double (2 : Int32) [(.double m10), (.double m11)] (.double 0)) (E_r0 : Exa Z h0 r0 own_K1) (E_rw : Exa Z h0 rw "[[D") (E_er : Exa Z h0 er "[[I") (E_ev : Exa Z h0 ev "[[D") (E_ba : Exa Z h0 ba "[I") (E_ri : Exa Z h0 ri "[[D") (E_e2 : Exa Z h0 e2 "[I") (E_f2 : Exa Z h0 f2 "[D") (E_i0 : Exa Z h0 i0 "[D") (E_uP : Exa Z h0 uP "[D") (E_uQ : Exa Z h0 uQ "[D") (g_uP : n0 ≤ uP) (g_uQ : n0 ≤ uQ) (g_i0 : n0 ≤ i0) (ne_i0_uP : i0 ≠ uP) (ne_i0_uQ : i0 ≠ uQ) (ne_f2_uP : f2 ≠ uP) (ne_f2_uQ : f2 ≠ uQ) (ne_uP_uQ : uP ≠ uQ) (hi0 : ¬ pr0 < (0 : Int32) ∧ pr0 < (2 : Int32)) (hg0 : ([.ref u0, .ref u1] : List Value).getD pr0.toNatClampNeg .null = .ref uP) (hi1 : ¬ pr1 < (0 : Int32) ∧ pr1 < (2 : Int32)) (hg1 : ([.ref u0, .ref u1] : List Value).getD pr1.toNatClampNeg .null = .ref uQ)
    {p : Program} {e : Env} {s : State} {m : MethodId} {args : Array Value} {below : List Frame} {meth : Method} {c : Code} {s₁ : State} {Lc : List Loc} (hx : p.tables.exec = Jvm.exec) (hby : c.code = prog_41_method_12_code) (hml : c.maxLocals = 10) (hZ : Z.Warmed39 s.vm) (hown : s.vm.findClass own_K1 = some m.cls) (hnm : meth.name = "refresh") (X0 : Stand p l e ({ frames := 1, cells := 3, slots := 6, locals := 40 } : Room) s m args below meth c s₁ Lc 3 6) (e0 : s₁.heap = h0) (N0 : Fr n0 Lc) :
    ∃ T : State, ∃ L : List Loc, Stand p l e ({ frames := 1, cells := 3, slots := 6, locals := 40 } : Room) s m args below meth c T L 3 6 ∧ Fr n0 L ∧ (Keep h0 T.heap [uP, uQ, i0]) ∧ (Arv Z T.heap i0 ki .double (2 : Int32) [(.double 4607182418800017408), (.double 0)] (.double 0)) ∧ (Arv Z T.heap uP ku .double (2 : Int32) [(.double va0), (.double m01)] (.double 0)) ∧ (Arv Z T.heap uQ ku .double (2 : Int32) [(.double va1), (.double m11)] (.double 0)) ∧ ∀ t, Steps p.tables e below (T.setTop (mkF m 15 #[oR r0, oR rw, oI 1, oI 2, oI 2, oU, oU, oU, oU, oU] [])) t → Steps p.tables e below (s₁.setTop (mkF m 15 #[oR r0, oR rw, oI 0, oU, oU, oU, oU, oU, oU, oU] [])) t := by
  obtain ⟨T101, X101, e101, st101⟩ := getF X0 hx hZ hown (host := "") (Or.inl (own_w hw 30 rfl)) Via.refl e0 F_rows_r0 (g := (mkF m 17 #[oR r0, oR rw, oI 0, oU, oU, oU, oU, oU, oU, oU] [(.ref r0), (.int 0)])) rfl rfl (hb hby d6_17)
  obtain ⟨T102, X102, e102, st102⟩ := getF X101 hx hZ hown (host := "") (Or.inl (own_w hw 42 rfl)) Via.refl e101 F_basic_r0 (g := (mkF m 24 #[oR r0, oR rw, oI 0, oU, oU, oU, oU, oU, oU, oU] [(.ref r0)])) rfl rfl (hb hby d6_24)
  obtain ⟨cl103, Ar103, qk103, Sz103, Nz103, Hh103, Gg103⟩ := id V_ba
  have hin104 : ¬ ((0 : Int32) < 0 ∨ cl103.slots.size ≤ ((0 : Int32)).toNatClampNeg) := inb_of Sz103 ⟨by decide, by decide⟩
  have hat104 : cl103.slots[((0 : Int32)).toNatClampNeg]? = some (.int 2) := Has.at Hh103 hin104 rfl
  obtain ⟨T105, X105, e105, st105⟩ := getF X102 hx hZ hown (host := "") (Or.inl (own_w hw 21 rfl)) Via.refl e102 F_entryRows_r0 (g := (mkF m 36 #[oR r0, oR rw, oI 0, oI 2, oI 0, oU, oU, oU, oU, oU] [(.ref r0), (.int 0)])) rfl rfl (hb hby d6_36)
  obtain ⟨cl106, Ar106, qk106, Sz106, Nz106, Hh106, Gg106⟩ := id V_er
  have hin107 : ¬ ((2 : Int32) < 0 ∨ cl106.slots.size ≤ ((2 : Int32)).toNatClampNeg) := inb_of Sz106 ⟨by decide, by decide⟩
  have hat107 : cl106.slots[((2 : Int32)).toNatClampNeg]? = some (.ref e2) := Has.at Hh106 hin107 rfl
  obtain ⟨cl108, Ar108, qk108, Sz108, Nz108, Hh108, Gg108⟩ := id V_e2
  obtain ⟨T109, X109, e109, st109⟩ := getF X105 hx hZ hown (host := "") (Or.inl (own_w hw 21 rfl)) Via.refl e105 F_entryRows_r0 (g := (mkF m 47 #[oR r0, oR rw, oI 0, oI 2, oI 0, oU, oU, oU, oU, oU] [(.ref r0), (.ref rw)])) rfl rfl (hb hby d6_47)
  have hin110 : ¬ ((2 : Int32) < 0 ∨ cl106.slots.size ≤ ((2 : Int32)).toNatClampNeg) := inb_of Sz106 ⟨by decide, by decide⟩
  have hat110 : cl106.slots[((2 : Int32)).toNatClampNeg]? = some (.ref e2) := Has.at Hh106 hin110 rfl
  have hin111 : ¬ ((0 : Int32) < 0 ∨ cl108.slots.size ≤ ((0 : Int32)).toNatClampNeg) := inb_of Sz108 ⟨by decide, by decide⟩
  have hat111 : cl108.slots[((0 : Int32)).toNatClampNeg]? = some (.int pr0) := Has.at Hh108 hin111 rfl
  obtain ⟨cl112, Ar112, qk112, Sz112, Nz112, Hh112, Gg112⟩ := id V_rw
  have hin113 : ¬ (pr0 < 0 ∨ cl112.slots.size ≤ (pr0).toNatClampNeg) := inb_of Sz112 hi0
  have hat113 : cl112.slots[(pr0).toNatClampNeg]? = some (.ref uP) := Has.at Hh112 hin113 hg0
  obtain ⟨T114, X114, e114, st114⟩ := getF X109 hx hZ hown (host := "") (Or.inl (own_w hw 25 rfl)) Via.refl e109 F_entryValues_r0 (g := (mkF m 58 #[oR r0, oR rw, oI 0, oI 2, oI 0, oU, oU, oU, oU, oU] [(.ref r0), (.int 0), (.ref uP)])) rfl rfl (hb hby d6_58)
  obtain ⟨cl115, Ar115, qk115, Sz115, Nz115, Hh115, Gg115⟩ := id V_ev
  have hin116 : ¬ ((2 : Int32) < 0 ∨ cl115.slots.size ≤ ((2 : Int32)).toNatClampNeg) := inb_of Sz115 ⟨by decide, by decide⟩
  have hat116 : cl115.slots[((2 : Int32)).toNatClampNeg]? = some (.ref f2) := Has.at Hh115 hin116 rfl
  obtain ⟨cl117, Ar117, qk117, Sz117, Nz117, Hh117, Gg117⟩ := id V_f2
  have hin118 : ¬ ((0 : Int32) < 0 ∨ cl117.slots.size ≤ ((0 : Int32)).toNatClampNeg) := inb_of Sz117 ⟨by decide, by decide⟩
  have hat118 : cl117.slots[((0 : Int32)).toNatClampNeg]? = some (.double va0) := Has.at Hh117 hin118 rfl
  obtain ⟨cl119, Ar119, qk119, Sz119, Nz119, Hh119, Gg119⟩ := id V_uP
  have hin120 : ¬ ((0 : Int32) < 0 ∨ cl119.slots.size ≤ ((0 : Int32)).toNatClampNeg) := inb_of Sz119 ⟨by decide, by decide⟩
  obtain ⟨T121, h121, X121, e121, W121, st121⟩ := stD X114 hx hZ e114 Ar119 (j := (0 : Int32)) hin120 (g := (mkF m 66 #[oR r0, oR rw, oI 0, oI 2, oI 0, oU, oU, oU, oU, oU] [(.double va0), (.int 0), (.ref uP)])) rfl rfl (hb hby d6_66)
  have Va121 := Arv.set Ar119 qk119 Sz119 Nz119 Hh119 Gg119 rfl W121 0 rfl (Nat.le_of_ble_eq_true rfl)
  have N121 := Fr.snoc X121 N0 g_uP
  have ZZ122 : n0 ≤ h121.size := Nat.le_trans Z0 (Nat.le_of_eq W121.size.symm)
  have KK123 : Keep h0 h121 [uP, uQ, i0] := (Keep.refl h0 [uP, uQ, i0]).wr W121 (Or.inl (List.mem_of_getElem? (i := 0) rfl))
  have nq124 : r0 ≠ uP := (ne_exa (E_r0.wr W121) (E_uP.wr W121) (by decide))
  have Fc125 := (F_entryRows_r0.other W121 (Or.inl nq124))
  obtain ⟨T126, X126, e126, st126⟩ := getF X121 hx hZ hown (host := "") (Or.inl (own_w hw 21 rfl)) Via.refl e121 Fc125 (g := (mkF m 36 #[oR r0, oR rw, oI 0, oI 2, oI 1, oU, oU, oU, oU, oU] [(.ref r0), (.int 1)])) rfl rfl (hb hby d6_36)
  have nq127 : er ≠ uP := (ne_exa (E_er.wr W121) (E_uP.wr W121) (by decide))
  obtain ⟨cl128, Ar128, qk128, Sz128, Nz128, Hh128, Gg128⟩ := id (V_er.other W121 nq127)
  have hin129 : ¬ ((2 : Int32) < 0 ∨ cl128.slots.size ≤ ((2 : Int32)).toNatClampNeg) := inb_of Sz128 ⟨by decide, by decide⟩
  have hat129 : cl128.slots[((2 : Int32)).toNatClampNeg]? = some (.ref e2) := Has.at Hh128 hin129 rfl
  have nq130 : e2 ≠ uP := (ne_exa (E_e2.wr W121) (E_uP.wr W121) (by decide))
  obtain ⟨cl131, Ar131, qk131, Sz131, Nz131, Hh131, Gg131⟩ := id (V_e2.other W121 nq130)
  obtain ⟨T132, X132, e132, st132⟩ := getF X126 hx hZ hown (host := "") (Or.inl (own_w hw 21 rfl)) Via.refl e126 Fc125 (g := (mkF m 47 #[oR r0, oR rw, oI 0, oI 2, oI 1, oU, oU, oU, oU, oU] [(.ref r0), (.ref rw)])) rfl rfl (hb hby d6_47)
  obtain ⟨cl133, Ar133, qk133, Sz133, Nz133, Hh133, Gg133⟩ := id (V_er.other W121 nq127)
  have hin134 : ¬ ((2 : Int32) < 0 ∨ cl133.slots.size ≤ ((2 : Int32)).toNatClampNeg) := inb_of Sz133 ⟨by decide, by decide⟩
  have hat134 : cl133.slots[((2 : Int32)).toNatClampNeg]? = some (.ref e2) := Has.at Hh133 hin134 rfl
  obtain ⟨cl135, Ar135, qk135, Sz135, Nz135, Hh135, Gg135⟩ := id (V_e2.other W121 nq130)
  have hin136 : ¬ ((1 : Int32) < 0 ∨ cl135.slots.size ≤ ((1 : Int32)).toNatClampNeg) := inb_of Sz135 ⟨by decide, by decide⟩
  have hat136 : cl135.slots[((1 : Int32)).toNatClampNeg]? = some (.int pr1) := Has.at Hh135 hin136 rfl
  have nq137 : rw ≠ uP := (ne_exa (E_rw.wr W121) (E_uP.wr W121) (by decide))
  obtain ⟨cl138, Ar138, qk138, Sz138, Nz138, Hh138, Gg138⟩ := id (V_rw.other W121 nq137)
  have hin139 : ¬ (pr1 < 0 ∨ cl138.slots.size ≤ (pr1).toNatClampNeg) := inb_of Sz138 hi1
  have hat139 : cl138.slots[(pr1).toNatClampNeg]? = some (.ref uQ) := Has.at Hh138 hin139 hg1
  have Fc140 := (F_entryValues_r0.other W121 (Or.inl nq124))
  obtain ⟨T141, X141, e141, st141⟩ := getF X132 hx hZ hown (host := "") (Or.inl (own_w hw 25 rfl)) Via.refl e132 Fc140 (g := (mkF m 58 #[oR r0, oR rw, oI 0, oI 2, oI 1, oU, oU, oU, oU, oU] [(.ref r0), (.int 0), (.ref uQ)])) rfl rfl (hb hby d6_58)
  have nq142 : ev ≠ uP := (ne_exa (E_ev.wr W121) (E_uP.wr W121) (by decide))
  obtain ⟨cl143, Ar143, qk143, Sz143, Nz143, Hh143, Gg143⟩ := id (V_ev.other W121 nq142)
  have hin144 : ¬ ((2 : Int32) < 0 ∨ cl143.slots.size ≤ ((2 : Int32)).toNatClampNeg) := inb_of Sz143 ⟨by decide, by decide⟩
  have hat144 : cl143.slots[((2 : Int32)).toNatClampNeg]? = some (.ref f2) := Has.at Hh143 hin144 rfl
  have Fc145 := (V_f2.other W121 ne_f2_uP)
  obtain ⟨cl146, Ar146, qk146, Sz146, Nz146, Hh146, Gg146⟩ := id Fc145
  have hin147 : ¬ ((1 : Int32) < 0 ∨ cl146.slots.size ≤ ((1 : Int32)).toNatClampNeg) := inb_of Sz146 ⟨by decide, by decide⟩
  have hat147 : cl146.slots[((1 : Int32)).toNatClampNeg]? = some (.double va1) := Has.at Hh146 hin147 rfl
  have Fc148 := (V_uQ.other W121 (Ne.symm ne_uP_uQ))
  obtain ⟨cl149, Ar149, qk149, Sz149, Nz149, Hh149, Gg149⟩ := id Fc148
  have hin150 : ¬ ((0 : Int32) < 0 ∨ cl149.slots.size ≤ ((0 : Int32)).toNatClampNeg) := inb_of Sz149 ⟨by decide, by decide⟩
  obtain ⟨T151, h151, X151, e151, W151, st151⟩ := stD X141 hx hZ e141 Ar149 (j := (0 : Int32)) hin150 (g := (mkF m 66 #[oR r0, oR rw, oI 0, oI 2, oI 1, oU, oU, oU, oU, oU] [(.double va1), (.int 0), (.ref uQ)])) rfl rfl (hb hby d6_66)
  have Va151 := Arv.set Ar149 qk149 Sz149 Nz149 Hh149 Gg149 rfl W151 0 rfl (Nat.le_of_ble_eq_true rfl)
  have N151 := Fr.snoc X151 N121 g_uQ
  have ZZ152 : n0 ≤ h151.size := Nat.le_trans ZZ122 (Nat.le_of_eq W151.size.symm)
  have KK153 : Keep h0 h151 [uP, uQ, i0] := KK123.wr W151 (Or.inl (List.mem_of_getElem? (i := 1) rfl))
  have Fc154 := (E_r0.keep KK153)
  have nq155 : r0 ≠ uQ := (ne_exa Fc154 ((E_uQ.wr W121).wr W151) (by decide))
  have Fc156 := (Fc125.other W151 (Or.inl nq155))
  obtain ⟨T157, X157, e157, st157⟩ := getF X151 hx hZ hown (host := "") (Or.inl (own_w hw 21 rfl)) Via.refl e151 Fc156 (g := (mkF m 36 #[oR r0, oR rw, oI 0, oI 2, oI 2, oU, oU, oU, oU, oU] [(.ref r0), (.int 2)])) rfl rfl (hb hby d6_36)
  have Fc158 := (E_er.keep KK153)
  have nq159 : er ≠ uQ := (ne_exa Fc158 ((E_uQ.wr W121).wr W151) (by decide))
  have nq160 : er ≠ i0 := (ne_exa Fc158 ((E_i0.wr W121).wr W151) (by decide))
  have Fc161 := (V_er.keep KK153 (ninS nq127 (ninS nq159 (ninS nq160 nin0))))
  obtain ⟨cl162, Ar162, qk162, Sz162, Nz162, Hh162, Gg162⟩ := id Fc161
  have hin163 : ¬ ((2 : Int32) < 0 ∨ cl162.slots.size ≤ ((2 : Int32)).toNatClampNeg) := inb_of Sz162 ⟨by decide, by decide⟩
  have hat163 : cl162.slots[((2 : Int32)).toNatClampNeg]? = some (.ref e2) := Has.at Hh162 hin163 rfl
  have Fc164 := (E_e2.keep KK153)
  have nq165 : e2 ≠ uQ := (ne_exa Fc164 ((E_uQ.wr W121).wr W151) (by decide))
  have nq166 : e2 ≠ i0 := (ne_exa Fc164 ((E_i0.wr W121).wr W151) (by decide))
  have Fc167 := (V_e2.keep KK153 (ninS nq130 (ninS nq165 (ninS nq166 nin0))))
  obtain ⟨cl168, Ar168, qk168, Sz168, Nz168, Hh168, Gg168⟩ := id Fc167
  have nq169 : r0 ≠ i0 := (ne_exa Fc154 ((E_i0.wr W121).wr W151) (by decide))
  have Fc170 := (F_inverse_r0.keep KK153 (ninS nq124 (ninS nq155 (ninS nq169 nin0))))
  obtain ⟨T171, X171, e171, st171⟩ := getF X157 hx hZ hown (host := "") (Or.inl (own_w hw 45 rfl)) Via.refl e157 Fc170 (g := (mkF m 74 #[oR r0, oR rw, oI 0, oI 2, oI 2, oU, oU, oU, oU, oU] [(.ref r0)])) rfl rfl (hb hby d6_74)
  have Fc172 := (E_ri.keep KK153)
  have nq173 : ri ≠ uP := (ne_exa Fc172 ((E_uP.wr W121).wr W151) (by decide))
  have nq174 : ri ≠ uQ := (ne_exa Fc172 ((E_uQ.wr W121).wr W151) (by decide))
  have nq175 : ri ≠ i0 := (ne_exa Fc172 ((E_i0.wr W121).wr W151) (by decide))
  have Fc176 := (V_ri.keep KK153 (ninS nq173 (ninS nq174 (ninS nq175 nin0))))
  obtain ⟨cl177, Ar177, qk177, Sz177, Nz177, Hh177, Gg177⟩ := id Fc176
  have hin178 : ¬ ((0 : Int32) < 0 ∨ cl177.slots.size ≤ ((0 : Int32)).toNatClampNeg) := inb_of Sz177 ⟨by decide, by decide⟩
  have hat178 : cl177.slots[((0 : Int32)).toNatClampNeg]? = some (.ref i0) := Has.at Hh177 hin178 rfl
  have Fc179 := ((V_i0.other W121 ne_i0_uP).other W151 ne_i0_uQ)
  obtain ⟨_, T180, L180, X180, hQ180, st180⟩ := own_cS X171 hx hZ hw hown (W := 0) (rmm7 l Z a0 hw [] i0 ki z0 z1 h151 n0 ZZ152 Fc179 g_i0) (by decide) (by decide) (by decide) 71 rfl 72 rfl 73 rfl 74 rfl e171 (g := (mkF m 80 #[oR r0, oR rw, oI 0, oI 2, oI 2, oU, oU, oU, oU, oU] [(.double 0), (.ref i0)])) rfl (by rw [hml]; rfl) (argsL := [(.ref i0), (.double 0)]) (rest := []) (lenOf pd3 rfl) rfl (Nat.le_of_eq rfl) (hb hby d6_80) rfl (cN := 3) rfl (by decide) (sN := 6) rfl (by decide)
  obtain ⟨rfl, Nq180, P180_0, P180_1⟩ := hQ180
  have N180 := Fr.app N151 Nq180
  have ZZ181 : n0 ≤ T180.heap.size := Nat.le_trans ZZ152 P180_0.1
  have KK182 : Keep h0 T180.heap [uP, uQ, i0] := Keep.trans KK153 P180_0 (allS (Or.inl (List.mem_of_getElem? (i := 2) rfl)) all0)
  have Fc183 := (F_inverse_r0.keep KK182 (ninS nq124 (ninS nq155 (ninS nq169 nin0))))
  obtain ⟨T184, X184, e184, st184⟩ := getF X180 hx hZ hown (host := "") (Or.inl (own_w hw 45 rfl)) Via.refl rfl Fc183 (g := (mkF m 84 #[oR r0, oR rw, oI 0, oI 2, oI 2, oU, oU, oU, oU, oU] [(.ref r0)])) rfl rfl (hb hby d6_84)
  have Fc185 := (V_ri.keep KK182 (ninS nq173 (ninS nq174 (ninS nq175 nin0))))
  obtain ⟨cl186, Ar186, qk186, Sz186, Nz186, Hh186, Gg186⟩ := id Fc185
  have hin187 : ¬ ((0 : Int32) < 0 ∨ cl186.slots.size ≤ ((0 : Int32)).toNatClampNeg) := inb_of Sz186 ⟨by decide, by decide⟩
  have hat187 : cl186.slots[((0 : Int32)).toNatClampNeg]? = some (.ref i0) := Has.at Hh186 hin187 rfl
  obtain ⟨cl188, Ar188, qk188, Sz188, Nz188, Hh188, Gg188⟩ := id P180_1
  have hin189 : ¬ ((0 : Int32) < 0 ∨ cl188.slots.size ≤ ((0 : Int32)).toNatClampNeg) := inb_of Sz188 ⟨by decide, by decide⟩
  obtain ⟨T190, h190, X190, e190, W190, st190⟩ := stD X184 hx hZ e184 Ar188 (j := (0 : Int32)) hin189 (g := (mkF m 91 #[oR r0, oR rw, oI 0, oI 2, oI 2, oU, oU, oU, oU, oU] [(.double 4607182418800017408), (.int 0), (.ref i0)])) rfl rfl (hb hby d6_91)
  have Va190 := Arv.set Ar188 qk188 Sz188 Nz188 Hh188 Gg188 rfl W190 0 rfl (Nat.le_of_ble_eq_true rfl)
  have N190 := Fr.snoc X190 N180 g_i0
  have ZZ191 : n0 ≤ h190.size := Nat.le_trans ZZ181 (Nat.le_of_eq W190.size.symm)
  have KK192 : Keep h0 h190 [uP, uQ, i0] := KK182.wr W190 (Or.inl (List.mem_of_getElem? (i := 2) rfl))
  refine ⟨_, _, X190, N190, (by rw [e190]; exact KK192), (by rw [e190]; exact Va190), (by rw [e190]; exact (((Va121.other W151 ne_uP_uQ).keep P180_0 (ninS (Ne.symm ne_i0_uP) nin0)).other W190 (Ne.symm ne_i0_uP))), (by rw [e190]; exact ((Va151.keep P180_0 (ninS (Ne.symm ne_i0_uQ) nin0)).other W190 (Ne.symm ne_i0_uQ))), fun t kt => ?_⟩
  show own_S p e below s₁ m 15 #[oR r0, oR rw, oI 0, oU, oU, oU, oU, oU, oU, oU] [] _
  refine XS.iloadN X0.here hx rfl (hb hby d6_15) rfl ?_
  refine XS.aloadN X0.here hx rfl (hb hby d6_16) rfl rfl ?_
  show own_S p e below s₁ m 17 _ [(.ref r0), (.int 0)] _
  refine st101 _ ?_
  show own_S p e below T101 m 20 _ [(.int 2), (.int 0)] _
  refine XS.icmpNo X101.here hx rfl (hb hby d6_20) rfl (tlt (by decide : (0 : Int32) < (2 : Int32))).2.1 ?_
  refine XS.aloadN X101.here hx rfl (hb hby d6_23) rfl rfl ?_
  show own_S p e below T101 m 24 _ [(.ref r0)] _
  refine st102 _ ?_
  show own_S p e below T102 m 27 _ [(.ref ba)] _
  refine XS.iloadN X102.here hx rfl (hb hby d6_27) rfl ?_
  show own_S p e below T102 m 28 #[oR r0, oR rw, oI 0, oU, oU, oU, oU, oU, oU, oU] [(.int 0), (.ref ba)] _
  refine X102.iaload hx (j := (0 : Int32)) (v := (.int 2)) (by rw [e102]; exact Ar103.1) (State.isArrayOf_alike hZ.alike Ar103.2.1) Ar103.2.2 hin104 hat104 (g := (mkF m 28 #[oR r0, oR rw, oI 0, oU, oU, oU, oU, oU, oU, oU] [(.int 0), (.ref ba)])) rfl rfl (hb hby d6_28) _ ?_
  show own_S p e below T102 m 29 _ [(.int 2)] _
  refine XS.istoreN X102.here hx rfl (hb hby d6_29) rfl (l' := #[oR r0, oR rw, oI 0, oI 2, oU, oU, oU, oU, oU, oU]) rfl ?_
  refine XS.iconst X102.here hx rfl (hb hby d6_30) ?_
  refine XS.istore X102.here hx rfl (hb hby d6_31) rfl (l' := #[oR r0, oR rw, oI 0, oI 2, oI 0, oU, oU, oU, oU, oU]) rfl ?_
  refine XS.iload X102.here hx rfl (hb hby d6_33) rfl ?_
  show own_S p e below T102 m 35 _ [(.int 0)] _
  refine XS.aloadN X102.here hx rfl (hb hby d6_35) rfl rfl ?_
  show own_S p e below T102 m 36 _ [(.ref r0), (.int 0)] _
  refine st105 _ ?_
  show own_S p e below T105 m 39 _ [(.ref er), (.int 0)] _
  refine XS.iloadN X105.here hx rfl (hb hby d6_39) rfl ?_
  show own_S p e below T105 m 40 _ [(.int 2), (.ref er), (.int 0)] _
  refine X105.aaload hx (j := (2 : Int32)) (v := (.ref e2)) (by rw [e105]; exact Ar106.1) (State.isArrayOf_alike hZ.alike Ar106.2.1) rfl Ar106.2.2 hin107 hat107 (g := (mkF m 40 #[oR r0, oR rw, oI 0, oI 2, oI 0, oU, oU, oU, oU, oU] [(.int 2), (.ref er), (.int 0)])) rfl rfl (hb hby d6_40) _ ?_
  show own_S p e below T105 m 41 _ [(.ref e2), (.int 0)] _
  refine X105.arraylength hx (by rw [e105]; exact Ar108.1) (State.isArrayOf_alike hZ.alike Ar108.2.1) (g := (mkF m 41 #[oR r0, oR rw, oI 0, oI 2, oI 0, oU, oU, oU, oU, oU] [(.ref e2), (.int 0)])) rfl rfl (hb hby d6_41) _ ?_
  rw [len_of Sz108 Nz108]
  show own_S p e below T105 m 42 _ [(.int 2), (.int 0)] _
  refine XS.icmpNo X105.here hx rfl (hb hby d6_42) rfl (tlt (by decide : (0 : Int32) < (2 : Int32))).2.1 ?_
  refine XS.aloadN X105.here hx rfl (hb hby d6_45) rfl rfl ?_
  refine XS.aloadN X105.here hx rfl (hb hby d6_46) rfl rfl ?_
  show own_S p e below T105 m 47 _ [(.ref r0), (.ref rw)] _
  refine st109 _ ?_
  show own_S p e below T109 m 50 _ [(.ref er), (.ref rw)] _
  refine XS.iloadN X109.here hx rfl (hb hby d6_50) rfl ?_
  show own_S p e below T109 m 51 _ [(.int 2), (.ref er), (.ref rw)] _
  refine X109.aaload hx (j := (2 : Int32)) (v := (.ref e2)) (by rw [e109]; exact Ar106.1) (State.isArrayOf_alike hZ.alike Ar106.2.1) rfl Ar106.2.2 hin110 hat110 (g := (mkF m 51 #[oR r0, oR rw, oI 0, oI 2, oI 0, oU, oU, oU, oU, oU] [(.int 2), (.ref er), (.ref rw)])) rfl rfl (hb hby d6_51) _ ?_
  show own_S p e below T109 m 52 _ [(.ref e2), (.ref rw)] _
  refine XS.iload X109.here hx rfl (hb hby d6_52) rfl ?_
  show own_S p e below T109 m 54 _ [(.int 0), (.ref e2), (.ref rw)] _
  refine X109.iaload hx (j := (0 : Int32)) (v := (.int pr0)) (by rw [e109]; exact Ar108.1) (State.isArrayOf_alike hZ.alike Ar108.2.1) Ar108.2.2 hin111 hat111 (g := (mkF m 54 #[oR r0, oR rw, oI 0, oI 2, oI 0, oU, oU, oU, oU, oU] [(.int 0), (.ref e2), (.ref rw)])) rfl rfl (hb hby d6_54) _ ?_
  show own_S p e below T109 m 55 #[oR r0, oR rw, oI 0, oI 2, oI 0, oU, oU, oU, oU, oU] [(.int pr0), (.ref rw)] _
  refine X109.aaload hx (j := pr0) (v := (.ref uP)) (by rw [e109]; exact Ar112.1) (State.isArrayOf_alike hZ.alike Ar112.2.1) rfl Ar112.2.2 hin113 hat113 (g := (mkF m 55 #[oR r0, oR rw, oI 0, oI 2, oI 0, oU, oU, oU, oU, oU] [(.int pr0), (.ref rw)])) rfl rfl (hb hby d6_55) _ ?_
  show own_S p e below T109 m 56 _ [(.ref uP)] _
  refine XS.iloadN X109.here hx rfl (hb hby d6_56) rfl ?_
  refine XS.aloadN X109.here hx rfl (hb hby d6_57) rfl rfl ?_
  show own_S p e below T109 m 58 _ [(.ref r0), (.int 0), (.ref uP)] _
  refine st114 _ ?_
  show own_S p e below T114 m 61 _ [(.ref ev), (.int 0), (.ref uP)] _
  refine XS.iloadN X114.here hx rfl (hb hby d6_61) rfl ?_
  show own_S p e below T114 m 62 _ [(.int 2), (.ref ev), (.int 0), (.ref uP)] _
  refine X114.aaload hx (j := (2 : Int32)) (v := (.ref f2)) (by rw [e114]; exact Ar115.1) (State.isArrayOf_alike hZ.alike Ar115.2.1) rfl Ar115.2.2 hin116 hat116 (g := (mkF m 62 #[oR r0, oR rw, oI 0, oI 2, oI 0, oU, oU, oU, oU, oU] [(.int 2), (.ref ev), (.int 0), (.ref uP)])) rfl rfl (hb hby d6_62) _ ?_
  show own_S p e below T114 m 63 _ [(.ref f2), (.int 0), (.ref uP)] _
  refine XS.iload X114.here hx rfl (hb hby d6_63) rfl ?_
  show own_S p e below T114 m 65 #[oR r0, oR rw, oI 0, oI 2, oI 0, oU, oU, oU, oU, oU] [(.int 0), (.ref f2), (.int 0), (.ref uP)] _
  refine X114.daload hx (j := (0 : Int32)) (v := (.double va0)) (by rw [e114]; exact Ar117.1) (State.isArrayOf_alike hZ.alike Ar117.2.1) Ar117.2.2 hin118 hat118 (g := (mkF m 65 #[oR r0, oR rw, oI 0, oI 2, oI 0, oU, oU, oU, oU, oU] [(.int 0), (.ref f2), (.int 0), (.ref uP)])) rfl rfl (hb hby d6_65) _ ?_
  show own_S p e below T114 m 66 _ [(.double va0), (.int 0), (.ref uP)] _
  refine st121 _ ?_
  show own_S p e below T121 m 67 _ [] _
  refine XS.iinc X121.here hx rfl (hb hby d6_67) rfl (l' := #[oR r0, oR rw, oI 0, oI 2, oI 1, oU, oU, oU, oU, oU]) rfl ?_
  refine XS.goto X121.here hx rfl (pc0 := 70) (pc' := 33) rfl (hb hby d6_70) (by decide) (by decide) ?_
  refine XS.iload X121.here hx rfl (hb hby d6_33) rfl ?_
  refine XS.aloadN X121.here hx rfl (hb hby d6_35) rfl rfl ?_
  show own_S p e below T121 m 36 _ [(.ref r0), (.int 1)] _
  refine st126 _ ?_
  show own_S p e below T126 m 39 _ [(.ref er), (.int 1)] _
  refine XS.iloadN X126.here hx rfl (hb hby d6_39) rfl ?_
  show own_S p e below T126 m 40 _ [(.int 2), (.ref er), (.int 1)] _
  refine X126.aaload hx (j := (2 : Int32)) (v := (.ref e2)) (by rw [e126]; exact Ar128.1) (State.isArrayOf_alike hZ.alike Ar128.2.1) rfl Ar128.2.2 hin129 hat129 (g := (mkF m 40 #[oR r0, oR rw, oI 0, oI 2, oI 1, oU, oU, oU, oU, oU] [(.int 2), (.ref er), (.int 1)])) rfl rfl (hb hby d6_40) _ ?_
  show own_S p e below T126 m 41 _ [(.ref e2), (.int 1)] _
  refine X126.arraylength hx (by rw [e126]; exact Ar131.1) (State.isArrayOf_alike hZ.alike Ar131.2.1) (g := (mkF m 41 #[oR r0, oR rw, oI 0, oI 2, oI 1, oU, oU, oU, oU, oU] [(.ref e2), (.int 1)])) rfl rfl (hb hby d6_41) _ ?_
  rw [len_of Sz131 Nz131]
  show own_S p e below T126 m 42 #[oR r0, oR rw, oI 0, oI 2, oI 1, oU, oU, oU, oU, oU] [(.int 2), (.int 1)] _
  refine XS.icmpNo X126.here hx rfl (hb hby d6_42) rfl (tlt (by decide : (1 : Int32) < (2 : Int32))).2.1 ?_
  refine XS.aloadN X126.here hx rfl (hb hby d6_45) rfl rfl ?_
  refine XS.aloadN X126.here hx rfl (hb hby d6_46) rfl rfl ?_
  show own_S p e below T126 m 47 _ [(.ref r0), (.ref rw)] _
  refine st132 _ ?_
  show own_S p e below T132 m 50 _ [(.ref er), (.ref rw)] _
  refine XS.iloadN X132.here hx rfl (hb hby d6_50) rfl ?_
  show own_S p e below T132 m 51 _ [(.int 2), (.ref er), (.ref rw)] _
  refine X132.aaload hx (j := (2 : Int32)) (v := (.ref e2)) (by rw [e132]; exact Ar133.1) (State.isArrayOf_alike hZ.alike Ar133.2.1) rfl Ar133.2.2 hin134 hat134 (g := (mkF m 51 #[oR r0, oR rw, oI 0, oI 2, oI 1, oU, oU, oU, oU, oU] [(.int 2), (.ref er), (.ref rw)])) rfl rfl (hb hby d6_51) _ ?_
  show own_S p e below T132 m 52 _ [(.ref e2), (.ref rw)] _
  refine XS.iload X132.here hx rfl (hb hby d6_52) rfl ?_
  show own_S p e below T132 m 54 #[oR r0, oR rw, oI 0, oI 2, oI 1, oU, oU, oU, oU, oU] [(.int 1), (.ref e2), (.ref rw)] _
  refine X132.iaload hx (j := (1 : Int32)) (v := (.int pr1)) (by rw [e132]; exact Ar135.1) (State.isArrayOf_alike hZ.alike Ar135.2.1) Ar135.2.2 hin136 hat136 (g := (mkF m 54 #[oR r0, oR rw, oI 0, oI 2, oI 1, oU, oU, oU, oU, oU] [(.int 1), (.ref e2), (.ref rw)])) rfl rfl (hb hby d6_54) _ ?_
  show own_S p e below T132 m 55 _ [(.int pr1), (.ref rw)] _
  refine X132.aaload hx (j := pr1) (v := (.ref uQ)) (by rw [e132]; exact Ar138.1) (State.isArrayOf_alike hZ.alike Ar138.2.1) rfl Ar138.2.2 hin139 hat139 (g := (mkF m 55 #[oR r0, oR rw, oI 0, oI 2, oI 1, oU, oU, oU, oU, oU] [(.int pr1), (.ref rw)])) rfl rfl (hb hby d6_55) _ ?_
  show own_S p e below T132 m 56 _ [(.ref uQ)] _
  refine XS.iloadN X132.here hx rfl (hb hby d6_56) rfl ?_
  refine XS.aloadN X132.here hx rfl (hb hby d6_57) rfl rfl ?_
  show own_S p e below T132 m 58 _ [(.ref r0), (.int 0), (.ref uQ)] _
  refine st141 _ ?_
  show own_S p e below T141 m 61 _ [(.ref ev), (.int 0), (.ref uQ)] _
  refine XS.iloadN X141.here hx rfl (hb hby d6_61) rfl ?_
  show own_S p e below T141 m 62 _ [(.int 2), (.ref ev), (.int 0), (.ref uQ)] _
  refine X141.aaload hx (j := (2 : Int32)) (v := (.ref f2)) (by rw [e141]; exact Ar143.1) (State.isArrayOf_alike hZ.alike Ar143.2.1) rfl Ar143.2.2 hin144 hat144 (g := (mkF m 62 #[oR r0, oR rw, oI 0, oI 2, oI 1, oU, oU, oU, oU, oU] [(.int 2), (.ref ev), (.int 0), (.ref uQ)])) rfl rfl (hb hby d6_62) _ ?_
  show own_S p e below T141 m 63 #[oR r0, oR rw, oI 0, oI 2, oI 1, oU, oU, oU, oU, oU] [(.ref f2), (.int 0), (.ref uQ)] _
  refine XS.iload X141.here hx rfl (hb hby d6_63) rfl ?_
  show own_S p e below T141 m 65 _ [(.int 1), (.ref f2), (.int 0), (.ref uQ)] _
  refine X141.daload hx (j := (1 : Int32)) (v := (.double va1)) (by rw [e141]; exact Ar146.1) (State.isArrayOf_alike hZ.alike Ar146.2.1) Ar146.2.2 hin147 hat147 (g := (mkF m 65 #[oR r0, oR rw, oI 0, oI 2, oI 1, oU, oU, oU, oU, oU] [(.int 1), (.ref f2), (.int 0), (.ref uQ)])) rfl rfl (hb hby d6_65) _ ?_
  show own_S p e below T141 m 66 _ [(.double va1), (.int 0), (.ref uQ)] _
  refine st151 _ ?_
  show own_S p e below T151 m 67 _ [] _
  refine XS.iinc X151.here hx rfl (hb hby d6_67) rfl (l' := #[oR r0, oR rw, oI 0, oI 2, oI 2, oU, oU, oU, oU, oU]) rfl ?_
  refine XS.goto X151.here hx rfl (pc0 := 70) (pc' := 33) rfl (hb hby d6_70) (by decide) (by decide) ?_
  refine XS.iload X151.here hx rfl (hb hby d6_33) rfl ?_
  refine XS.aloadN X151.here hx rfl (hb hby d6_35) rfl rfl ?_
  show own_S p e below T151 m 36 _ [(.ref r0), (.int 2)] _
  refine st157 _ ?_
  show own_S p e below T157 m 39 _ [(.ref er), (.int 2)] _
  refine XS.iloadN X157.here hx rfl (hb hby d6_39) rfl ?_
  show own_S p e below T157 m 40 _ [(.int 2), (.ref er), (.int 2)] _
  refine X157.aaload hx (j := (2 : Int32)) (v := (.ref e2)) (by rw [e157]; exact Ar162.1) (State.isArrayOf_alike hZ.alike Ar162.2.1) rfl Ar162.2.2 hin163 hat163 (g := (mkF m 40 #[oR r0, oR rw, oI 0, oI 2, oI 2, oU, oU, oU, oU, oU] [(.int 2), (.ref er), (.int 2)])) rfl rfl (hb hby d6_40) _ ?_
  show own_S p e below T157 m 41 _ [(.ref e2), (.int 2)] _
  refine X157.arraylength hx (by rw [e157]; exact Ar168.1) (State.isArrayOf_alike hZ.alike Ar168.2.1) (g := (mkF m 41 #[oR r0, oR rw, oI 0, oI 2, oI 2, oU, oU, oU, oU, oU] [(.ref e2), (.int 2)])) rfl rfl (hb hby d6_41) _ ?_
  rw [len_of Sz168 Nz168]
  show own_S p e below T157 m 42 #[oR r0, oR rw, oI 0, oI 2, oI 2, oU, oU, oU, oU, oU] [(.int 2), (.int 2)] _
  refine XS.icmpYes X157.here hx rfl (pc0 := 42) (pc' := 73) rfl (hb hby d6_42) rfl (flt (by decide : ¬ ((2 : Int32) < (2 : Int32)))).2.1 (by decide) (by decide) ?_
  refine XS.aloadN X157.here hx rfl (hb hby d6_73) rfl rfl ?_
  show own_S p e below T157 m 74 _ [(.ref r0)] _
  refine st171 _ ?_
  show own_S p e below T171 m 77 _ [(.ref ri)] _
  refine XS.iloadN X171.here hx rfl (hb hby d6_77) rfl ?_
  show own_S p e below T171 m 78 _ [(.int 0), (.ref ri)] _
  refine X171.aaload hx (j := (0 : Int32)) (v := (.ref i0)) (by rw [e171]; exact Ar177.1) (State.isArrayOf_alike hZ.alike Ar177.2.1) rfl Ar177.2.2 hin178 hat178 (g := (mkF m 78 #[oR r0, oR rw, oI 0, oI 2, oI 2, oU, oU, oU, oU, oU] [(.int 0), (.ref ri)])) rfl rfl (hb hby d6_78) _ ?_
  show own_S p e below T171 m 79 _ [(.ref i0)] _
  refine XS.dconst0 X171.here hx rfl (v := 0) (hb hby d6_79) rfl ?_
  show own_S p e below T171 m 80 _ [(.double 0), (.ref i0)] _
  refine st180.trans ?_
  show own_S p e below T180 m 83 #[oR r0, oR rw, oI 0, oI 2, oI 2, oU, oU, oU, oU, oU] [] _
  refine XS.aloadN X180.here hx rfl (hb hby d6_83) rfl rfl ?_
  show own_S p e below T180 m 84 _ [(.ref r0)] _
  refine st184 _ ?_
  show own_S p e below T184 m 87 _ [(.ref ri)] _
  refine XS.iloadN X184.here hx rfl (hb hby d6_87) rfl ?_
  show own_S p e below T184 m 88 _ [(.int 0), (.ref ri)] _
  refine X184.aaload hx (j := (0 : Int32)) (v := (.ref i0)) (by rw [e184]; exact Ar186.1) (State.isArrayOf_alike hZ.alike Ar186.2.1) rfl Ar186.2.2 hin187 hat187 (g := (mkF m 88 #[oR r0, oR rw, oI 0, oI 2, oI 2, oU, oU, oU, oU, oU] [(.int 0), (.ref ri)])) rfl rfl (hb hby d6_88) _ ?_
  show own_S p e below T184 m 89 _ [(.ref i0)] _
  refine XS.iloadN X184.here hx rfl (hb hby d6_89) rfl ?_
  refine XS.dconst1 X184.here hx rfl (v := 4607182418800017408) (hb hby d6_90) rfl ?_
  show own_S p e below T184 m 91 _ [(.double 4607182418800017408), (.int 0), (.ref i0)] _
  refine st190 _ ?_
  show own_S p e below T190 m 92 #[oR r0, oR rw, oI 0, oI 2, oI 2, oU, oU, oU, oU, oU] [] _
  refine XS.iinc X190.here hx rfl (hb hby d6_92) rfl (l' := #[oR r0, oR rw, oI 1, oI 2, oI 2, oU, oU, oU, oU, oU]) rfl ?_
  refine XS.goto X190.here hx rfl (pc0 := 95) (pc' := 15) rfl (hb hby d6_95) (by decide) (by decide) ?_
  exact kt
set_option maxRecDepth 65536 in
set_option maxHeartbeats 40000000 in
theorem own_X11 (l : Launch) (Z : State) (a0 : Array Value) (hw : own_HW Z a0) (r0 : Addr) (rw : Addr) (u0 : Addr) (u1 : Addr) (ri : Addr) (i0 : Addr) (i1 : Addr) (er : Addr) (ev : Addr) (ba : Addr) (e1 : Addr) (e2 : Addr) (f1 : Addr) (f2 : Addr) (uP : Addr) (kw : ClassId) (ku : ClassId) (kri : ClassId) (ki : ClassId) (ker : ClassId) (kev : ClassId) (kba : ClassId) (ke : ClassId) (kf : ClassId) (wE : Value) (wF : Value) (wb0 : Value) (pr0 : Int32) (l3 : Int32) (l4 : Int32) (va0 : UInt64) (m00 : UInt64) (m01 : UInt64) (z0 : UInt64) (z1 : UInt64) (h0 : Heap) (n0 : Nat) (Z0 : n0 ≤ h0.size) (F_rows_r0 : Fld Z h0 r0 own_K1 "rows" "I" (.int 2)) (F_basic_r0 : Fld Z h0 r0 own_K1 "basic" "[I" (.ref ba)) (F_entryRows_r0 : Fld Z h0 r0 own_K1 "entryRows" "[[I" (.ref er)) (F_entryValues_r0 : Fld Z h0 r0 own_K1 "entryValues" "[[D" (.ref ev)) (F_inverse_r0 : Fld Z h0 r0 own_K1 "inverse" "[[D" (.ref ri)) (V_rw : Arv Z h0 rw kw (.array .double) (2 : Int32) [(.ref u0), (.ref u1)] .null) (V_er : Arv Z h0 er ker (.array .int) (16 : Int32) [wE, (.ref e1), (.ref e2)] .null) (V_ev : Arv Z h0 ev kev (.array .double) (16 : Int32) [wF, (.ref f1), (.ref f2)] .null) (V_ba : Arv Z h0 ba kba .int (2 : Int32) [wb0, (.int 1)] (.int 0)) (V_ri : Arv Z h0 ri kri (.array .double) (2 : Int32) [(.ref i0), (.ref i1)] .null) (V_e1 : Arv Z h0 e1 ke .int (1 : Int32) [(.int pr0)] (.int 0)) (V_f1 : Arv Z h0 f1 kf .double (1 : Int32) [(.double va0)] (.double 0)) (V_i1 : Arv Z h0 i1 ki .double (2 : Int32) [(.double z0), (.double z1)] (.double 0)) (V_uP : Arv Z h0 uP ku .double (2 : Int32) [(.double m00), (.double m01)] (.double 0)) (E_r0 : Exa Z h0 r0 own_K1) (E_rw : Exa Z h0 rw "[[D") (E_er : Exa Z h0 er "[[I") (E_ev : Exa Z h0 ev "[[D") (E_ba : Exa Z h0 ba "[I") (E_ri : Exa Z h0 ri "[[D") (E_e1 : Exa Z h0 e1 "[I") (E_f1 : Exa Z h0 f1 "[D") (E_i1 : Exa Z h0 i1 "[D") (E_uP : Exa Z h0 uP "[D") (g_uP : n0 ≤ uP) (g_i1 : n0 ≤ i1) (ne_i1_uP : i1 ≠ uP) (ne_f1_uP : f1 ≠ uP) (hi0 : ¬ pr0 < (0 : Int32) ∧ pr0 < (2 : Int32)) (hg0 : ([.ref u0, .ref u1] : List Value).getD pr0.toNatClampNeg .null = .ref uP)
    {p : Program} {e : Env} {s : State} {m : MethodId} {args : Array Value} {below : List Frame} {meth : Method} {c : Code} {s₁ : State} {Lc : List Loc} (hx : p.tables.exec = Jvm.exec) (hby : c.code = prog_41_method_12_code) (hml : c.maxLocals = 10) (hZ : Z.Warmed39 s.vm) (hown : s.vm.findClass own_K1 = some m.cls) (hnm : meth.name = "refresh") (X0 : Stand p l e ({ frames := 1, cells := 3, slots := 6, locals := 40 } : Room) s m args below meth c s₁ Lc 3 6) (e0 : s₁.heap = h0) (N0 : Fr n0 Lc) :
    ∃ T : State, ∃ L : List Loc, Stand p l e ({ frames := 1, cells := 3, slots := 6, locals := 40 } : Room) s m args below meth c T L 3 6 ∧ Fr n0 L ∧ (Keep h0 T.heap [uP, i1]) ∧ (Arv Z T.heap i1 ki .double (2 : Int32) [(.double 0), (.double 4607182418800017408)] (.double 0)) ∧ (Arv Z T.heap uP ku .double (2 : Int32) [(.double m00), (.double va0)] (.double 0)) ∧ ∀ t, Steps p.tables e below (T.setTop (mkF m 15 #[oR r0, oR rw, oI 2, oI 1, oI 1, oU, oU, oU, oU, oU] [])) t → Steps p.tables e below (s₁.setTop (mkF m 15 #[oR r0, oR rw, oI 1, oI l3, oI l4, oU, oU, oU, oU, oU] [])) t := by
  obtain ⟨T101, X101, e101, st101⟩ := getF X0 hx hZ hown (host := "") (Or.inl (own_w hw 30 rfl)) Via.refl e0 F_rows_r0 (g := (mkF m 17 #[oR r0, oR rw, oI 1, oI l3, oI l4, oU, oU, oU, oU, oU] [(.ref r0), (.int 1)])) rfl rfl (hb hby d6_17)
  obtain ⟨T102, X102, e102, st102⟩ := getF X101 hx hZ hown (host := "") (Or.inl (own_w hw 42 rfl)) Via.refl e101 F_basic_r0 (g := (mkF m 24 #[oR r0, oR rw, oI 1, oI l3, oI l4, oU, oU, oU, oU, oU] [(.ref r0)])) rfl rfl (hb hby d6_24)
  obtain ⟨cl103, Ar103, qk103, Sz103, Nz103, Hh103, Gg103⟩ := id V_ba
  have hin104 : ¬ ((1 : Int32) < 0 ∨ cl103.slots.size ≤ ((1 : Int32)).toNatClampNeg) := inb_of Sz103 ⟨by decide, by decide⟩
  have hat104 : cl103.slots[((1 : Int32)).toNatClampNeg]? = some (.int 1) := Has.at Hh103 hin104 rfl
  obtain ⟨T105, X105, e105, st105⟩ := getF X102 hx hZ hown (host := "") (Or.inl (own_w hw 21 rfl)) Via.refl e102 F_entryRows_r0 (g := (mkF m 36 #[oR r0, oR rw, oI 1, oI 1, oI 0, oU, oU, oU, oU, oU] [(.ref r0), (.int 0)])) rfl rfl (hb hby d6_36)
  obtain ⟨cl106, Ar106, qk106, Sz106, Nz106, Hh106, Gg106⟩ := id V_er
  have hin107 : ¬ ((1 : Int32) < 0 ∨ cl106.slots.size ≤ ((1 : Int32)).toNatClampNeg) := inb_of Sz106 ⟨by decide, by decide⟩
  have hat107 : cl106.slots[((1 : Int32)).toNatClampNeg]? = some (.ref e1) := Has.at Hh106 hin107 rfl
  obtain ⟨cl108, Ar108, qk108, Sz108, Nz108, Hh108, Gg108⟩ := id V_e1
  obtain ⟨T109, X109, e109, st109⟩ := getF X105 hx hZ hown (host := "") (Or.inl (own_w hw 21 rfl)) Via.refl e105 F_entryRows_r0 (g := (mkF m 47 #[oR r0, oR rw, oI 1, oI 1, oI 0, oU, oU, oU, oU, oU] [(.ref r0), (.ref rw)])) rfl rfl (hb hby d6_47)
  have hin110 : ¬ ((1 : Int32) < 0 ∨ cl106.slots.size ≤ ((1 : Int32)).toNatClampNeg) := inb_of Sz106 ⟨by decide, by decide⟩
  have hat110 : cl106.slots[((1 : Int32)).toNatClampNeg]? = some (.ref e1) := Has.at Hh106 hin110 rfl
  have hin111 : ¬ ((0 : Int32) < 0 ∨ cl108.slots.size ≤ ((0 : Int32)).toNatClampNeg) := inb_of Sz108 ⟨by decide, by decide⟩
  have hat111 : cl108.slots[((0 : Int32)).toNatClampNeg]? = some (.int pr0) := Has.at Hh108 hin111 rfl
  obtain ⟨cl112, Ar112, qk112, Sz112, Nz112, Hh112, Gg112⟩ := id V_rw
  have hin113 : ¬ (pr0 < 0 ∨ cl112.slots.size ≤ (pr0).toNatClampNeg) := inb_of Sz112 hi0
  have hat113 : cl112.slots[(pr0).toNatClampNeg]? = some (.ref uP) := Has.at Hh112 hin113 hg0
  obtain ⟨T114, X114, e114, st114⟩ := getF X109 hx hZ hown (host := "") (Or.inl (own_w hw 25 rfl)) Via.refl e109 F_entryValues_r0 (g := (mkF m 58 #[oR r0, oR rw, oI 1, oI 1, oI 0, oU, oU, oU, oU, oU] [(.ref r0), (.int 1), (.ref uP)])) rfl rfl (hb hby d6_58)
  obtain ⟨cl115, Ar115, qk115, Sz115, Nz115, Hh115, Gg115⟩ := id V_ev
  have hin116 : ¬ ((1 : Int32) < 0 ∨ cl115.slots.size ≤ ((1 : Int32)).toNatClampNeg) := inb_of Sz115 ⟨by decide, by decide⟩
  have hat116 : cl115.slots[((1 : Int32)).toNatClampNeg]? = some (.ref f1) := Has.at Hh115 hin116 rfl
  obtain ⟨cl117, Ar117, qk117, Sz117, Nz117, Hh117, Gg117⟩ := id V_f1
  have hin118 : ¬ ((0 : Int32) < 0 ∨ cl117.slots.size ≤ ((0 : Int32)).toNatClampNeg) := inb_of Sz117 ⟨by decide, by decide⟩
  have hat118 : cl117.slots[((0 : Int32)).toNatClampNeg]? = some (.double va0) := Has.at Hh117 hin118 rfl
  obtain ⟨cl119, Ar119, qk119, Sz119, Nz119, Hh119, Gg119⟩ := id V_uP
  have hin120 : ¬ ((1 : Int32) < 0 ∨ cl119.slots.size ≤ ((1 : Int32)).toNatClampNeg) := inb_of Sz119 ⟨by decide, by decide⟩
  obtain ⟨T121, h121, X121, e121, W121, st121⟩ := stD X114 hx hZ e114 Ar119 (j := (1 : Int32)) hin120 (g := (mkF m 66 #[oR r0, oR rw, oI 1, oI 1, oI 0, oU, oU, oU, oU, oU] [(.double va0), (.int 1), (.ref uP)])) rfl rfl (hb hby d6_66)
  have Va121 := Arv.set Ar119 qk119 Sz119 Nz119 Hh119 Gg119 rfl W121 1 rfl (Nat.le_of_ble_eq_true rfl)
  have N121 := Fr.snoc X121 N0 g_uP
  have ZZ122 : n0 ≤ h121.size := Nat.le_trans Z0 (Nat.le_of_eq W121.size.symm)
  have KK123 : Keep h0 h121 [uP, i1] := (Keep.refl h0 [uP, i1]).wr W121 (Or.inl (List.mem_of_getElem? (i := 0) rfl))
  have nq124 : r0 ≠ uP := (ne_exa (E_r0.wr W121) (E_uP.wr W121) (by decide))
  have Fc125 := (F_entryRows_r0.other W121 (Or.inl nq124))
  obtain ⟨T126, X126, e126, st126⟩ := getF X121 hx hZ hown (host := "") (Or.inl (own_w hw 21 rfl)) Via.refl e121 Fc125 (g := (mkF m 36 #[oR r0, oR rw, oI 1, oI 1, oI 1, oU, oU, oU, oU, oU] [(.ref r0), (.int 1)])) rfl rfl (hb hby d6_36)
  have nq127 : er ≠ uP := (ne_exa (E_er.wr W121) (E_uP.wr W121) (by decide))
  obtain ⟨cl128, Ar128, qk128, Sz128, Nz128, Hh128, Gg128⟩ := id (V_er.other W121 nq127)
  have hin129 : ¬ ((1 : Int32) < 0 ∨ cl128.slots.size ≤ ((1 : Int32)).toNatClampNeg) := inb_of Sz128 ⟨by decide, by decide⟩
  have hat129 : cl128.slots[((1 : Int32)).toNatClampNeg]? = some (.ref e1) := Has.at Hh128 hin129 rfl
  have nq130 : e1 ≠ uP := (ne_exa (E_e1.wr W121) (E_uP.wr W121) (by decide))
  obtain ⟨cl131, Ar131, qk131, Sz131, Nz131, Hh131, Gg131⟩ := id (V_e1.other W121 nq130)
  have Fc132 := (F_inverse_r0.other W121 (Or.inl nq124))
  obtain ⟨T133, X133, e133, st133⟩ := getF X126 hx hZ hown (host := "") (Or.inl (own_w hw 45 rfl)) Via.refl e126 Fc132 (g := (mkF m 74 #[oR r0, oR rw, oI 1, oI 1, oI 1, oU, oU, oU, oU, oU] [(.ref r0)])) rfl rfl (hb hby d6_74)
  have nq134 : ri ≠ uP := (ne_exa (E_ri.wr W121) (E_uP.wr W121) (by decide))
  obtain ⟨cl135, Ar135, qk135, Sz135, Nz135, Hh135, Gg135⟩ := id (V_ri.other W121 nq134)
  have hin136 : ¬ ((1 : Int32) < 0 ∨ cl135.slots.size ≤ ((1 : Int32)).toNatClampNeg) := inb_of Sz135 ⟨by decide, by decide⟩
  have hat136 : cl135.slots[((1 : Int32)).toNatClampNeg]? = some (.ref i1) := Has.at Hh135 hin136 rfl
  have Fc137 := (V_i1.other W121 ne_i1_uP)
  obtain ⟨_, T138, L138, X138, hQ138, st138⟩ := own_cS X133 hx hZ hw hown (W := 0) (rmm7 l Z a0 hw [] i1 ki z0 z1 h121 n0 ZZ122 Fc137 g_i1) (by decide) (by decide) (by decide) 71 rfl 72 rfl 73 rfl 74 rfl e133 (g := (mkF m 80 #[oR r0, oR rw, oI 1, oI 1, oI 1, oU, oU, oU, oU, oU] [(.double 0), (.ref i1)])) rfl (by rw [hml]; rfl) (argsL := [(.ref i1), (.double 0)]) (rest := []) (lenOf pd3 rfl) rfl (Nat.le_of_eq rfl) (hb hby d6_80) rfl (cN := 3) rfl (by decide) (sN := 6) rfl (by decide)
  obtain ⟨rfl, Nq138, P138_0, P138_1⟩ := hQ138
  have N138 := Fr.app N121 Nq138
  have ZZ139 : n0 ≤ T138.heap.size := Nat.le_trans ZZ122 P138_0.1
  have KK140 : Keep h0 T138.heap [uP, i1] := Keep.trans KK123 P138_0 (allS (Or.inl (List.mem_of_getElem? (i := 1) rfl)) all0)
  have Fc141 := (E_r0.keep KK140)
  have Fc142 := ((E_i1.wr W121).keep P138_0)
  have nq143 : r0 ≠ i1 := (ne_exa Fc141 Fc142 (by decide))
  have Fc144 := (Fc132.keep P138_0 (ninS nq143 nin0))
  obtain ⟨T145, X145, e145, st145⟩ := getF X138 hx hZ hown (host := "") (Or.inl (own_w hw 45 rfl)) Via.refl rfl Fc144 (g := (mkF m 84 #[oR r0, oR rw, oI 1, oI 1, oI 1, oU, oU, oU, oU, oU] [(.ref r0)])) rfl rfl (hb hby d6_84)
  have Fc146 := (E_ri.keep KK140)
  have nq147 : ri ≠ i1 := (ne_exa Fc146 Fc142 (by decide))
  have Fc148 := (V_ri.keep KK140 (ninS nq134 (ninS nq147 nin0)))
  obtain ⟨cl149, Ar149, qk149, Sz149, Nz149, Hh149, Gg149⟩ := id Fc148
  have hin150 : ¬ ((1 : Int32) < 0 ∨ cl149.slots.size ≤ ((1 : Int32)).toNatClampNeg) := inb_of Sz149 ⟨by decide, by decide⟩
  have hat150 : cl149.slots[((1 : Int32)).toNatClampNeg]? = some (.ref i1) := Has.at Hh149 hin150 rfl
  obtain ⟨cl151, Ar151, qk151, Sz151, Nz151, Hh151, Gg151⟩ := id P138_1
  have hin152 : ¬ ((1 : Int32) < 0 ∨ cl151.slots.size ≤ ((1 : Int32)).toNatClampNeg) := inb_of Sz151 ⟨by decide, by decide⟩
  obtain ⟨T153, h153, X153, e153, W153, st153⟩ := stD X145 hx hZ e145 Ar151 (j := (1 : Int32)) hin152 (g := (mkF m 91 #[oR r0, oR rw, oI 1, oI 1, oI 1, oU, oU, oU, oU, oU] [(.double 4607182418800017408), (.int 1), (.ref i1)])) rfl rfl (hb hby d6_91)
  have Va153 := Arv.set Ar151 qk151 Sz151 Nz151 Hh151 Gg151 rfl W153 1 rfl (Nat.le_of_ble_eq_true rfl)
  have N153 := Fr.snoc X153 N138 g_i1
  have ZZ154 : n0 ≤ h153.size := Nat.le_trans ZZ139 (Nat.le_of_eq W153.size.symm)
  have KK155 : Keep h0 h153 [uP, i1] := KK140.wr W153 (Or.inl (List.mem_of_getElem? (i := 1) rfl))
  refine ⟨_, _, X153, N153, (by rw [e153]; exact KK155), (by rw [e153]; exact Va153), (by rw [e153]; exact ((Va121.keep P138_0 (ninS (Ne.symm ne_i1_uP) nin0)).other W153 (Ne.symm ne_i1_uP))), fun t kt => ?_⟩
  show own_S p e below s₁ m 15 #[oR r0, oR rw, oI 1, oI l3, oI l4, oU, oU, oU, oU, oU] [] _
  refine XS.iloadN X0.here hx rfl (hb hby d6_15) rfl ?_
  refine XS.aloadN X0.here hx rfl (hb hby d6_16) rfl rfl ?_
  show own_S p e below s₁ m 17 _ [(.ref r0), (.int 1)] _
  refine st101 _ ?_
  show own_S p e below T101 m 20 _ [(.int 2), (.int 1)] _
  refine XS.icmpNo X101.here hx rfl (hb hby d6_20) rfl (tlt (by decide : (1 : Int32) < (2 : Int32))).2.1 ?_
  refine XS.aloadN X101.here hx rfl (hb hby d6_23) rfl rfl ?_
  show own_S p e below T101 m 24 _ [(.ref r0)] _
  refine st102 _ ?_
  show own_S p e below T102 m 27 _ [(.ref ba)] _
  refine XS.iloadN X102.here hx rfl (hb hby d6_27) rfl ?_
  show own_S p e below T102 m 28 #[oR r0, oR rw, oI 1, oI l3, oI l4, oU, oU, oU, oU, oU] [(.int 1), (.ref ba)] _
  refine X102.iaload hx (j := (1 : Int32)) (v := (.int 1)) (by rw [e102]; exact Ar103.1) (State.isArrayOf_alike hZ.alike Ar103.2.1) Ar103.2.2 hin104 hat104 (g := (mkF m 28 #[oR r0, oR rw, oI 1, oI l3, oI l4, oU, oU, oU, oU, oU] [(.int 1), (.ref ba)])) rfl rfl (hb hby d6_28) _ ?_
  show own_S p e below T102 m 29 _ [(.int 1)] _
  refine XS.istoreN X102.here hx rfl (hb hby d6_29) rfl (l' := #[oR r0, oR rw, oI 1, oI 1, oI l4, oU, oU, oU, oU, oU]) rfl ?_
  refine XS.iconst X102.here hx rfl (hb hby d6_30) ?_
  refine XS.istore X102.here hx rfl (hb hby d6_31) rfl (l' := #[oR r0, oR rw, oI 1, oI 1, oI 0, oU, oU, oU, oU, oU]) rfl ?_
  refine XS.iload X102.here hx rfl (hb hby d6_33) rfl ?_
  show own_S p e below T102 m 35 _ [(.int 0)] _
  refine XS.aloadN X102.here hx rfl (hb hby d6_35) rfl rfl ?_
  show own_S p e below T102 m 36 _ [(.ref r0), (.int 0)] _
  refine st105 _ ?_
  show own_S p e below T105 m 39 _ [(.ref er), (.int 0)] _
  refine XS.iloadN X105.here hx rfl (hb hby d6_39) rfl ?_
  show own_S p e below T105 m 40 _ [(.int 1), (.ref er), (.int 0)] _
  refine X105.aaload hx (j := (1 : Int32)) (v := (.ref e1)) (by rw [e105]; exact Ar106.1) (State.isArrayOf_alike hZ.alike Ar106.2.1) rfl Ar106.2.2 hin107 hat107 (g := (mkF m 40 #[oR r0, oR rw, oI 1, oI 1, oI 0, oU, oU, oU, oU, oU] [(.int 1), (.ref er), (.int 0)])) rfl rfl (hb hby d6_40) _ ?_
  show own_S p e below T105 m 41 _ [(.ref e1), (.int 0)] _
  refine X105.arraylength hx (by rw [e105]; exact Ar108.1) (State.isArrayOf_alike hZ.alike Ar108.2.1) (g := (mkF m 41 #[oR r0, oR rw, oI 1, oI 1, oI 0, oU, oU, oU, oU, oU] [(.ref e1), (.int 0)])) rfl rfl (hb hby d6_41) _ ?_
  rw [len_of Sz108 Nz108]
  show own_S p e below T105 m 42 _ [(.int 1), (.int 0)] _
  refine XS.icmpNo X105.here hx rfl (hb hby d6_42) rfl (tlt (by decide : (0 : Int32) < (1 : Int32))).2.1 ?_
  refine XS.aloadN X105.here hx rfl (hb hby d6_45) rfl rfl ?_
  refine XS.aloadN X105.here hx rfl (hb hby d6_46) rfl rfl ?_
  show own_S p e below T105 m 47 _ [(.ref r0), (.ref rw)] _
  refine st109 _ ?_
  show own_S p e below T109 m 50 _ [(.ref er), (.ref rw)] _
  refine XS.iloadN X109.here hx rfl (hb hby d6_50) rfl ?_
  show own_S p e below T109 m 51 _ [(.int 1), (.ref er), (.ref rw)] _
  refine X109.aaload hx (j := (1 : Int32)) (v := (.ref e1)) (by rw [e109]; exact Ar106.1) (State.isArrayOf_alike hZ.alike Ar106.2.1) rfl Ar106.2.2 hin110 hat110 (g := (mkF m 51 #[oR r0, oR rw, oI 1, oI 1, oI 0, oU, oU, oU, oU, oU] [(.int 1), (.ref er), (.ref rw)])) rfl rfl (hb hby d6_51) _ ?_
  show own_S p e below T109 m 52 _ [(.ref e1), (.ref rw)] _
  refine XS.iload X109.here hx rfl (hb hby d6_52) rfl ?_
  show own_S p e below T109 m 54 _ [(.int 0), (.ref e1), (.ref rw)] _
  refine X109.iaload hx (j := (0 : Int32)) (v := (.int pr0)) (by rw [e109]; exact Ar108.1) (State.isArrayOf_alike hZ.alike Ar108.2.1) Ar108.2.2 hin111 hat111 (g := (mkF m 54 #[oR r0, oR rw, oI 1, oI 1, oI 0, oU, oU, oU, oU, oU] [(.int 0), (.ref e1), (.ref rw)])) rfl rfl (hb hby d6_54) _ ?_
  show own_S p e below T109 m 55 #[oR r0, oR rw, oI 1, oI 1, oI 0, oU, oU, oU, oU, oU] [(.int pr0), (.ref rw)] _
  refine X109.aaload hx (j := pr0) (v := (.ref uP)) (by rw [e109]; exact Ar112.1) (State.isArrayOf_alike hZ.alike Ar112.2.1) rfl Ar112.2.2 hin113 hat113 (g := (mkF m 55 #[oR r0, oR rw, oI 1, oI 1, oI 0, oU, oU, oU, oU, oU] [(.int pr0), (.ref rw)])) rfl rfl (hb hby d6_55) _ ?_
  show own_S p e below T109 m 56 _ [(.ref uP)] _
  refine XS.iloadN X109.here hx rfl (hb hby d6_56) rfl ?_
  refine XS.aloadN X109.here hx rfl (hb hby d6_57) rfl rfl ?_
  show own_S p e below T109 m 58 _ [(.ref r0), (.int 1), (.ref uP)] _
  refine st114 _ ?_
  show own_S p e below T114 m 61 _ [(.ref ev), (.int 1), (.ref uP)] _
  refine XS.iloadN X114.here hx rfl (hb hby d6_61) rfl ?_
  show own_S p e below T114 m 62 _ [(.int 1), (.ref ev), (.int 1), (.ref uP)] _
  refine X114.aaload hx (j := (1 : Int32)) (v := (.ref f1)) (by rw [e114]; exact Ar115.1) (State.isArrayOf_alike hZ.alike Ar115.2.1) rfl Ar115.2.2 hin116 hat116 (g := (mkF m 62 #[oR r0, oR rw, oI 1, oI 1, oI 0, oU, oU, oU, oU, oU] [(.int 1), (.ref ev), (.int 1), (.ref uP)])) rfl rfl (hb hby d6_62) _ ?_
  show own_S p e below T114 m 63 _ [(.ref f1), (.int 1), (.ref uP)] _
  refine XS.iload X114.here hx rfl (hb hby d6_63) rfl ?_
  show own_S p e below T114 m 65 #[oR r0, oR rw, oI 1, oI 1, oI 0, oU, oU, oU, oU, oU] [(.int 0), (.ref f1), (.int 1), (.ref uP)] _
  refine X114.daload hx (j := (0 : Int32)) (v := (.double va0)) (by rw [e114]; exact Ar117.1) (State.isArrayOf_alike hZ.alike Ar117.2.1) Ar117.2.2 hin118 hat118 (g := (mkF m 65 #[oR r0, oR rw, oI 1, oI 1, oI 0, oU, oU, oU, oU, oU] [(.int 0), (.ref f1), (.int 1), (.ref uP)])) rfl rfl (hb hby d6_65) _ ?_
  show own_S p e below T114 m 66 _ [(.double va0), (.int 1), (.ref uP)] _
  refine st121 _ ?_
  show own_S p e below T121 m 67 _ [] _
  refine XS.iinc X121.here hx rfl (hb hby d6_67) rfl (l' := #[oR r0, oR rw, oI 1, oI 1, oI 1, oU, oU, oU, oU, oU]) rfl ?_
  refine XS.goto X121.here hx rfl (pc0 := 70) (pc' := 33) rfl (hb hby d6_70) (by decide) (by decide) ?_
  refine XS.iload X121.here hx rfl (hb hby d6_33) rfl ?_
  refine XS.aloadN X121.here hx rfl (hb hby d6_35) rfl rfl ?_
  show own_S p e below T121 m 36 _ [(.ref r0), (.int 1)] _
  refine st126 _ ?_
  show own_S p e below T126 m 39 _ [(.ref er), (.int 1)] _
  refine XS.iloadN X126.here hx rfl (hb hby d6_39) rfl ?_
  show own_S p e below T126 m 40 _ [(.int 1), (.ref er), (.int 1)] _
  refine X126.aaload hx (j := (1 : Int32)) (v := (.ref e1)) (by rw [e126]; exact Ar128.1) (State.isArrayOf_alike hZ.alike Ar128.2.1) rfl Ar128.2.2 hin129 hat129 (g := (mkF m 40 #[oR r0, oR rw, oI 1, oI 1, oI 1, oU, oU, oU, oU, oU] [(.int 1), (.ref er), (.int 1)])) rfl rfl (hb hby d6_40) _ ?_
  show own_S p e below T126 m 41 _ [(.ref e1), (.int 1)] _
  refine X126.arraylength hx (by rw [e126]; exact Ar131.1) (State.isArrayOf_alike hZ.alike Ar131.2.1) (g := (mkF m 41 #[oR r0, oR rw, oI 1, oI 1, oI 1, oU, oU, oU, oU, oU] [(.ref e1), (.int 1)])) rfl rfl (hb hby d6_41) _ ?_
  rw [len_of Sz131 Nz131]
  show own_S p e below T126 m 42 #[oR r0, oR rw, oI 1, oI 1, oI 1, oU, oU, oU, oU, oU] [(.int 1), (.int 1)] _
  refine XS.icmpYes X126.here hx rfl (pc0 := 42) (pc' := 73) rfl (hb hby d6_42) rfl (flt (by decide : ¬ ((1 : Int32) < (1 : Int32)))).2.1 (by decide) (by decide) ?_
  refine XS.aloadN X126.here hx rfl (hb hby d6_73) rfl rfl ?_
  show own_S p e below T126 m 74 _ [(.ref r0)] _
  refine st133 _ ?_
  show own_S p e below T133 m 77 _ [(.ref ri)] _
  refine XS.iloadN X133.here hx rfl (hb hby d6_77) rfl ?_
  show own_S p e below T133 m 78 _ [(.int 1), (.ref ri)] _
  refine X133.aaload hx (j := (1 : Int32)) (v := (.ref i1)) (by rw [e133]; exact Ar135.1) (State.isArrayOf_alike hZ.alike Ar135.2.1) rfl Ar135.2.2 hin136 hat136 (g := (mkF m 78 #[oR r0, oR rw, oI 1, oI 1, oI 1, oU, oU, oU, oU, oU] [(.int 1), (.ref ri)])) rfl rfl (hb hby d6_78) _ ?_
  show own_S p e below T133 m 79 _ [(.ref i1)] _
  refine XS.dconst0 X133.here hx rfl (v := 0) (hb hby d6_79) rfl ?_
  show own_S p e below T133 m 80 _ [(.double 0), (.ref i1)] _
  refine st138.trans ?_
  show own_S p e below T138 m 83 #[oR r0, oR rw, oI 1, oI 1, oI 1, oU, oU, oU, oU, oU] [] _
  refine XS.aloadN X138.here hx rfl (hb hby d6_83) rfl rfl ?_
  show own_S p e below T138 m 84 _ [(.ref r0)] _
  refine st145 _ ?_
  show own_S p e below T145 m 87 _ [(.ref ri)] _
  refine XS.iloadN X145.here hx rfl (hb hby d6_87) rfl ?_
  show own_S p e below T145 m 88 _ [(.int 1), (.ref ri)] _
  refine X145.aaload hx (j := (1 : Int32)) (v := (.ref i1)) (by rw [e145]; exact Ar149.1) (State.isArrayOf_alike hZ.alike Ar149.2.1) rfl Ar149.2.2 hin150 hat150 (g := (mkF m 88 #[oR r0, oR rw, oI 1, oI 1, oI 1, oU, oU, oU, oU, oU] [(.int 1), (.ref ri)])) rfl rfl (hb hby d6_88) _ ?_
  show own_S p e below T145 m 89 _ [(.ref i1)] _
  refine XS.iloadN X145.here hx rfl (hb hby d6_89) rfl ?_
  refine XS.dconst1 X145.here hx rfl (v := 4607182418800017408) (hb hby d6_90) rfl ?_
  show own_S p e below T145 m 91 _ [(.double 4607182418800017408), (.int 1), (.ref i1)] _
  refine st153 _ ?_
  show own_S p e below T153 m 92 #[oR r0, oR rw, oI 1, oI 1, oI 1, oU, oU, oU, oU, oU] [] _
  refine XS.iinc X153.here hx rfl (hb hby d6_92) rfl (l' := #[oR r0, oR rw, oI 2, oI 1, oI 1, oU, oU, oU, oU, oU]) rfl ?_
  refine XS.goto X153.here hx rfl (pc0 := 95) (pc' := 15) rfl (hb hby d6_95) (by decide) (by decide) ?_
  exact kt
set_option maxRecDepth 65536 in
set_option maxHeartbeats 40000000 in
theorem own_X12 (l : Launch) (Z : State) (a0 : Array Value) (hw : own_HW Z a0) (r0 : Addr) (rw : Addr) (u0 : Addr) (u1 : Addr) (ri : Addr) (i0 : Addr) (i1 : Addr) (er : Addr) (ev : Addr) (ba : Addr) (e1 : Addr) (e2 : Addr) (f1 : Addr) (f2 : Addr) (uP : Addr) (uQ : Addr) (kw : ClassId) (ku : ClassId) (kri : ClassId) (ki : ClassId) (ker : ClassId) (kev : ClassId) (kba : ClassId) (ke : ClassId) (kf : ClassId) (wE : Value) (wF : Value) (wb0 : Value) (pr0 : Int32) (pr1 : Int32) (l3 : Int32) (l4 : Int32) (va0 : UInt64) (va1 : UInt64) (m00 : UInt64) (m01 : UInt64) (m10 : UInt64) (m11 : UInt64) (z0 : UInt64) (z1 : UInt64) (h0 : Heap) (n0 : Nat) (Z0 : n0 ≤ h0.size) (F_rows_r0 : Fld Z h0 r0 own_K1 "rows" "I" (.int 2)) (F_basic_r0 : Fld Z h0 r0 own_K1 "basic" "[I" (.ref ba)) (F_entryRows_r0 : Fld Z h0 r0 own_K1 "entryRows" "[[I" (.ref er)) (F_entryValues_r0 : Fld Z h0 r0 own_K1 "entryValues" "[[D" (.ref ev)) (F_inverse_r0 : Fld Z h0 r0 own_K1 "inverse" "[[D" (.ref ri)) (V_rw : Arv Z h0 rw kw (.array .double) (2 : Int32) [(.ref u0), (.ref u1)] .null) (V_er : Arv Z h0 er ker (.array .int) (16 : Int32) [wE, (.ref e1), (.ref e2)] .null) (V_ev : Arv Z h0 ev kev (.array .double) (16 : Int32) [wF, (.ref f1), (.ref f2)] .null) (V_ba : Arv Z h0 ba kba .int (2 : Int32) [wb0, (.int 2)] (.int 0)) (V_ri : Arv Z h0 ri kri (.array .double) (2 : Int32) [(.ref i0), (.ref i1)] .null) (V_e2 : Arv Z h0 e2 ke .int (2 : Int32) [(.int pr0), (.int pr1)] (.int 0)) (V_f2 : Arv Z h0 f2 kf .double (2 : Int32) [(.double va0), (.double va1)] (.double 0)) (V_i1 : Arv Z h0 i1 ki .double (2 : Int32) [(.double z0), (.double z1)] (.double 0)) (V_uP : Arv Z h0 uP ku .double (2 : Int32) [(.double m00), (.double m01)] (.double 0)) (V_uQ : Arv Z h0 uQ ku .double (2 : Int32) [(.double m10), (.double m11)] (.double 0)) (E_r0 : Exa Z h0 r0 own_K1) (E_rw : Exa Z h0 rw "[[D") (E_er : Exa Z h0 er "[[I") (E_ev : Exa Z h0 ev "[[D") (E_ba : Exa Z h0 ba "[I") (E_ri : Exa Z h0 ri "[[D") (E_e2 : Exa Z h0 e2 "[I") (E_f2 : Exa Z h0 f2 "[D") (E_i1 : Exa Z h0 i1 "[D") (E_uP : Exa Z h0 uP "[D") (E_uQ : Exa Z h0 uQ "[D") (g_uP : n0 ≤ uP) (g_uQ : n0 ≤ uQ) (g_i1 : n0 ≤ i1) (ne_i1_uP : i1 ≠ uP) (ne_i1_uQ : i1 ≠ uQ) (ne_f2_uP : f2 ≠ uP) (ne_f2_uQ : f2 ≠ uQ) (ne_uP_uQ : uP ≠ uQ) (hi0 : ¬ pr0 < (0 : Int32) ∧ pr0 < (2 : Int32)) (hg0 : ([.ref u0, .ref u1] : List Value).getD pr0.toNatClampNeg .null = .ref uP) (hi1 : ¬ pr1 < (0 : Int32) ∧ pr1 < (2 : Int32)) (hg1 : ([.ref u0, .ref u1] : List Value).getD pr1.toNatClampNeg .null = .ref uQ)
    {p : Program} {e : Env} {s : State} {m : MethodId} {args : Array Value} {below : List Frame} {meth : Method} {c : Code} {s₁ : State} {Lc : List Loc} (hx : p.tables.exec = Jvm.exec) (hby : c.code = prog_41_method_12_code) (hml : c.maxLocals = 10) (hZ : Z.Warmed39 s.vm) (hown : s.vm.findClass own_K1 = some m.cls) (hnm : meth.name = "refresh") (X0 : Stand p l e ({ frames := 1, cells := 3, slots := 6, locals := 40 } : Room) s m args below meth c s₁ Lc 3 6) (e0 : s₁.heap = h0) (N0 : Fr n0 Lc) :
    ∃ T : State, ∃ L : List Loc, Stand p l e ({ frames := 1, cells := 3, slots := 6, locals := 40 } : Room) s m args below meth c T L 3 6 ∧ Fr n0 L ∧ (Keep h0 T.heap [uP, uQ, i1]) ∧ (Arv Z T.heap i1 ki .double (2 : Int32) [(.double 0), (.double 4607182418800017408)] (.double 0)) ∧ (Arv Z T.heap uP ku .double (2 : Int32) [(.double m00), (.double va0)] (.double 0)) ∧ (Arv Z T.heap uQ ku .double (2 : Int32) [(.double m10), (.double va1)] (.double 0)) ∧ ∀ t, Steps p.tables e below (T.setTop (mkF m 15 #[oR r0, oR rw, oI 2, oI 2, oI 2, oU, oU, oU, oU, oU] [])) t → Steps p.tables e below (s₁.setTop (mkF m 15 #[oR r0, oR rw, oI 1, oI l3, oI l4, oU, oU, oU, oU, oU] [])) t := by
  obtain ⟨T101, X101, e101, st101⟩ := getF X0 hx hZ hown (host := "") (Or.inl (own_w hw 30 rfl)) Via.refl e0 F_rows_r0 (g := (mkF m 17 #[oR r0, oR rw, oI 1, oI l3, oI l4, oU, oU, oU, oU, oU] [(.ref r0), (.int 1)])) rfl rfl (hb hby d6_17)
  obtain ⟨T102, X102, e102, st102⟩ := getF X101 hx hZ hown (host := "") (Or.inl (own_w hw 42 rfl)) Via.refl e101 F_basic_r0 (g := (mkF m 24 #[oR r0, oR rw, oI 1, oI l3, oI l4, oU, oU, oU, oU, oU] [(.ref r0)])) rfl rfl (hb hby d6_24)
  obtain ⟨cl103, Ar103, qk103, Sz103, Nz103, Hh103, Gg103⟩ := id V_ba
  have hin104 : ¬ ((1 : Int32) < 0 ∨ cl103.slots.size ≤ ((1 : Int32)).toNatClampNeg) := inb_of Sz103 ⟨by decide, by decide⟩
  have hat104 : cl103.slots[((1 : Int32)).toNatClampNeg]? = some (.int 2) := Has.at Hh103 hin104 rfl
  obtain ⟨T105, X105, e105, st105⟩ := getF X102 hx hZ hown (host := "") (Or.inl (own_w hw 21 rfl)) Via.refl e102 F_entryRows_r0 (g := (mkF m 36 #[oR r0, oR rw, oI 1, oI 2, oI 0, oU, oU, oU, oU, oU] [(.ref r0), (.int 0)])) rfl rfl (hb hby d6_36)
  obtain ⟨cl106, Ar106, qk106, Sz106, Nz106, Hh106, Gg106⟩ := id V_er
  have hin107 : ¬ ((2 : Int32) < 0 ∨ cl106.slots.size ≤ ((2 : Int32)).toNatClampNeg) := inb_of Sz106 ⟨by decide, by decide⟩
  have hat107 : cl106.slots[((2 : Int32)).toNatClampNeg]? = some (.ref e2) := Has.at Hh106 hin107 rfl
  obtain ⟨cl108, Ar108, qk108, Sz108, Nz108, Hh108, Gg108⟩ := id V_e2
  obtain ⟨T109, X109, e109, st109⟩ := getF X105 hx hZ hown (host := "") (Or.inl (own_w hw 21 rfl)) Via.refl e105 F_entryRows_r0 (g := (mkF m 47 #[oR r0, oR rw, oI 1, oI 2, oI 0, oU, oU, oU, oU, oU] [(.ref r0), (.ref rw)])) rfl rfl (hb hby d6_47)
  have hin110 : ¬ ((2 : Int32) < 0 ∨ cl106.slots.size ≤ ((2 : Int32)).toNatClampNeg) := inb_of Sz106 ⟨by decide, by decide⟩
  have hat110 : cl106.slots[((2 : Int32)).toNatClampNeg]? = some (.ref e2) := Has.at Hh106 hin110 rfl
  have hin111 : ¬ ((0 : Int32) < 0 ∨ cl108.slots.size ≤ ((0 : Int32)).toNatClampNeg) := inb_of Sz108 ⟨by decide, by decide⟩
  have hat111 : cl108.slots[((0 : Int32)).toNatClampNeg]? = some (.int pr0) := Has.at Hh108 hin111 rfl
  obtain ⟨cl112, Ar112, qk112, Sz112, Nz112, Hh112, Gg112⟩ := id V_rw
  have hin113 : ¬ (pr0 < 0 ∨ cl112.slots.size ≤ (pr0).toNatClampNeg) := inb_of Sz112 hi0
  have hat113 : cl112.slots[(pr0).toNatClampNeg]? = some (.ref uP) := Has.at Hh112 hin113 hg0
  obtain ⟨T114, X114, e114, st114⟩ := getF X109 hx hZ hown (host := "") (Or.inl (own_w hw 25 rfl)) Via.refl e109 F_entryValues_r0 (g := (mkF m 58 #[oR r0, oR rw, oI 1, oI 2, oI 0, oU, oU, oU, oU, oU] [(.ref r0), (.int 1), (.ref uP)])) rfl rfl (hb hby d6_58)
  obtain ⟨cl115, Ar115, qk115, Sz115, Nz115, Hh115, Gg115⟩ := id V_ev
  have hin116 : ¬ ((2 : Int32) < 0 ∨ cl115.slots.size ≤ ((2 : Int32)).toNatClampNeg) := inb_of Sz115 ⟨by decide, by decide⟩
  have hat116 : cl115.slots[((2 : Int32)).toNatClampNeg]? = some (.ref f2) := Has.at Hh115 hin116 rfl
  obtain ⟨cl117, Ar117, qk117, Sz117, Nz117, Hh117, Gg117⟩ := id V_f2
  have hin118 : ¬ ((0 : Int32) < 0 ∨ cl117.slots.size ≤ ((0 : Int32)).toNatClampNeg) := inb_of Sz117 ⟨by decide, by decide⟩
  have hat118 : cl117.slots[((0 : Int32)).toNatClampNeg]? = some (.double va0) := Has.at Hh117 hin118 rfl
  obtain ⟨cl119, Ar119, qk119, Sz119, Nz119, Hh119, Gg119⟩ := id V_uP
  have hin120 : ¬ ((1 : Int32) < 0 ∨ cl119.slots.size ≤ ((1 : Int32)).toNatClampNeg) := inb_of Sz119 ⟨by decide, by decide⟩
  obtain ⟨T121, h121, X121, e121, W121, st121⟩ := stD X114 hx hZ e114 Ar119 (j := (1 : Int32)) hin120 (g := (mkF m 66 #[oR r0, oR rw, oI 1, oI 2, oI 0, oU, oU, oU, oU, oU] [(.double va0), (.int 1), (.ref uP)])) rfl rfl (hb hby d6_66)
  have Va121 := Arv.set Ar119 qk119 Sz119 Nz119 Hh119 Gg119 rfl W121 1 rfl (Nat.le_of_ble_eq_true rfl)
  have N121 := Fr.snoc X121 N0 g_uP
  have ZZ122 : n0 ≤ h121.size := Nat.le_trans Z0 (Nat.le_of_eq W121.size.symm)
  have KK123 : Keep h0 h121 [uP, uQ, i1] := (Keep.refl h0 [uP, uQ, i1]).wr W121 (Or.inl (List.mem_of_getElem? (i := 0) rfl))
  have nq124 : r0 ≠ uP := (ne_exa (E_r0.wr W121) (E_uP.wr W121) (by decide))
  have Fc125 := (F_entryRows_r0.other W121 (Or.inl nq124))
  obtain ⟨T126, X126, e126, st126⟩ := getF X121 hx hZ hown (host := "") (Or.inl (own_w hw 21 rfl)) Via.refl e121 Fc125 (g := (mkF m 36 #[oR r0, oR rw, oI 1, oI 2, oI 1, oU, oU, oU, oU, oU] [(.ref r0), (.int 1)])) rfl rfl (hb hby d6_36)
  have nq127 : er ≠ uP := (ne_exa (E_er.wr W121) (E_uP.wr W121) (by decide))
  obtain ⟨cl128, Ar128, qk128, Sz128, Nz128, Hh128, Gg128⟩ := id (V_er.other W121 nq127)
  have hin129 : ¬ ((2 : Int32) < 0 ∨ cl128.slots.size ≤ ((2 : Int32)).toNatClampNeg) := inb_of Sz128 ⟨by decide, by decide⟩
  have hat129 : cl128.slots[((2 : Int32)).toNatClampNeg]? = some (.ref e2) := Has.at Hh128 hin129 rfl
  have nq130 : e2 ≠ uP := (ne_exa (E_e2.wr W121) (E_uP.wr W121) (by decide))
  obtain ⟨cl131, Ar131, qk131, Sz131, Nz131, Hh131, Gg131⟩ := id (V_e2.other W121 nq130)
  obtain ⟨T132, X132, e132, st132⟩ := getF X126 hx hZ hown (host := "") (Or.inl (own_w hw 21 rfl)) Via.refl e126 Fc125 (g := (mkF m 47 #[oR r0, oR rw, oI 1, oI 2, oI 1, oU, oU, oU, oU, oU] [(.ref r0), (.ref rw)])) rfl rfl (hb hby d6_47)
  obtain ⟨cl133, Ar133, qk133, Sz133, Nz133, Hh133, Gg133⟩ := id (V_er.other W121 nq127)
  have hin134 : ¬ ((2 : Int32) < 0 ∨ cl133.slots.size ≤ ((2 : Int32)).toNatClampNeg) := inb_of Sz133 ⟨by decide, by decide⟩
  have hat134 : cl133.slots[((2 : Int32)).toNatClampNeg]? = some (.ref e2) := Has.at Hh133 hin134 rfl
  obtain ⟨cl135, Ar135, qk135, Sz135, Nz135, Hh135, Gg135⟩ := id (V_e2.other W121 nq130)
  have hin136 : ¬ ((1 : Int32) < 0 ∨ cl135.slots.size ≤ ((1 : Int32)).toNatClampNeg) := inb_of Sz135 ⟨by decide, by decide⟩
  have hat136 : cl135.slots[((1 : Int32)).toNatClampNeg]? = some (.int pr1) := Has.at Hh135 hin136 rfl
  have nq137 : rw ≠ uP := (ne_exa (E_rw.wr W121) (E_uP.wr W121) (by decide))
  obtain ⟨cl138, Ar138, qk138, Sz138, Nz138, Hh138, Gg138⟩ := id (V_rw.other W121 nq137)
  have hin139 : ¬ (pr1 < 0 ∨ cl138.slots.size ≤ (pr1).toNatClampNeg) := inb_of Sz138 hi1
  have hat139 : cl138.slots[(pr1).toNatClampNeg]? = some (.ref uQ) := Has.at Hh138 hin139 hg1
  have Fc140 := (F_entryValues_r0.other W121 (Or.inl nq124))
  obtain ⟨T141, X141, e141, st141⟩ := getF X132 hx hZ hown (host := "") (Or.inl (own_w hw 25 rfl)) Via.refl e132 Fc140 (g := (mkF m 58 #[oR r0, oR rw, oI 1, oI 2, oI 1, oU, oU, oU, oU, oU] [(.ref r0), (.int 1), (.ref uQ)])) rfl rfl (hb hby d6_58)
  have nq142 : ev ≠ uP := (ne_exa (E_ev.wr W121) (E_uP.wr W121) (by decide))
  obtain ⟨cl143, Ar143, qk143, Sz143, Nz143, Hh143, Gg143⟩ := id (V_ev.other W121 nq142)
  have hin144 : ¬ ((2 : Int32) < 0 ∨ cl143.slots.size ≤ ((2 : Int32)).toNatClampNeg) := inb_of Sz143 ⟨by decide, by decide⟩
  have hat144 : cl143.slots[((2 : Int32)).toNatClampNeg]? = some (.ref f2) := Has.at Hh143 hin144 rfl
  have Fc145 := (V_f2.other W121 ne_f2_uP)
  obtain ⟨cl146, Ar146, qk146, Sz146, Nz146, Hh146, Gg146⟩ := id Fc145
  have hin147 : ¬ ((1 : Int32) < 0 ∨ cl146.slots.size ≤ ((1 : Int32)).toNatClampNeg) := inb_of Sz146 ⟨by decide, by decide⟩
  have hat147 : cl146.slots[((1 : Int32)).toNatClampNeg]? = some (.double va1) := Has.at Hh146 hin147 rfl
  have Fc148 := (V_uQ.other W121 (Ne.symm ne_uP_uQ))
  obtain ⟨cl149, Ar149, qk149, Sz149, Nz149, Hh149, Gg149⟩ := id Fc148
  have hin150 : ¬ ((1 : Int32) < 0 ∨ cl149.slots.size ≤ ((1 : Int32)).toNatClampNeg) := inb_of Sz149 ⟨by decide, by decide⟩
  obtain ⟨T151, h151, X151, e151, W151, st151⟩ := stD X141 hx hZ e141 Ar149 (j := (1 : Int32)) hin150 (g := (mkF m 66 #[oR r0, oR rw, oI 1, oI 2, oI 1, oU, oU, oU, oU, oU] [(.double va1), (.int 1), (.ref uQ)])) rfl rfl (hb hby d6_66)
  have Va151 := Arv.set Ar149 qk149 Sz149 Nz149 Hh149 Gg149 rfl W151 1 rfl (Nat.le_of_ble_eq_true rfl)
  have N151 := Fr.snoc X151 N121 g_uQ
  have ZZ152 : n0 ≤ h151.size := Nat.le_trans ZZ122 (Nat.le_of_eq W151.size.symm)
  have KK153 : Keep h0 h151 [uP, uQ, i1] := KK123.wr W151 (Or.inl (List.mem_of_getElem? (i := 1) rfl))
  have Fc154 := (E_r0.keep KK153)
  have nq155 : r0 ≠ uQ := (ne_exa Fc154 ((E_uQ.wr W121).wr W151) (by decide))
  have Fc156 := (Fc125.other W151 (Or.inl nq155))
  obtain ⟨T157, X157, e157, st157⟩ := getF X151 hx hZ hown (host := "") (Or.inl (own_w hw 21 rfl)) Via.refl e151 Fc156 (g := (mkF m 36 #[oR r0, oR rw, oI 1, oI 2, oI 2, oU, oU, oU, oU, oU] [(.ref r0), (.int 2)])) rfl rfl (hb hby d6_36)
  have Fc158 := (E_er.keep KK153)
  have nq159 : er ≠ uQ := (ne_exa Fc158 ((E_uQ.wr W121).wr W151) (by decide))
  have nq160 : er ≠ i1 := (ne_exa Fc158 ((E_i1.wr W121).wr W151) (by decide))
  have Fc161 := (V_er.keep KK153 (ninS nq127 (ninS nq159 (ninS nq160 nin0))))
  obtain ⟨cl162, Ar162, qk162, Sz162, Nz162, Hh162, Gg162⟩ := id Fc161
  have hin163 : ¬ ((2 : Int32) < 0 ∨ cl162.slots.size ≤ ((2 : Int32)).toNatClampNeg) := inb_of Sz162 ⟨by decide, by decide⟩
  have hat163 : cl162.slots[((2 : Int32)).toNatClampNeg]? = some (.ref e2) := Has.at Hh162 hin163 rfl
  have Fc164 := (E_e2.keep KK153)
  have nq165 : e2 ≠ uQ := (ne_exa Fc164 ((E_uQ.wr W121).wr W151) (by decide))
  have nq166 : e2 ≠ i1 := (ne_exa Fc164 ((E_i1.wr W121).wr W151) (by decide))
  have Fc167 := (V_e2.keep KK153 (ninS nq130 (ninS nq165 (ninS nq166 nin0))))
  obtain ⟨cl168, Ar168, qk168, Sz168, Nz168, Hh168, Gg168⟩ := id Fc167
  have nq169 : r0 ≠ i1 := (ne_exa Fc154 ((E_i1.wr W121).wr W151) (by decide))
  have Fc170 := (F_inverse_r0.keep KK153 (ninS nq124 (ninS nq155 (ninS nq169 nin0))))
  obtain ⟨T171, X171, e171, st171⟩ := getF X157 hx hZ hown (host := "") (Or.inl (own_w hw 45 rfl)) Via.refl e157 Fc170 (g := (mkF m 74 #[oR r0, oR rw, oI 1, oI 2, oI 2, oU, oU, oU, oU, oU] [(.ref r0)])) rfl rfl (hb hby d6_74)
  have Fc172 := (E_ri.keep KK153)
  have nq173 : ri ≠ uP := (ne_exa Fc172 ((E_uP.wr W121).wr W151) (by decide))
  have nq174 : ri ≠ uQ := (ne_exa Fc172 ((E_uQ.wr W121).wr W151) (by decide))
  have nq175 : ri ≠ i1 := (ne_exa Fc172 ((E_i1.wr W121).wr W151) (by decide))
  have Fc176 := (V_ri.keep KK153 (ninS nq173 (ninS nq174 (ninS nq175 nin0))))
  obtain ⟨cl177, Ar177, qk177, Sz177, Nz177, Hh177, Gg177⟩ := id Fc176
  have hin178 : ¬ ((1 : Int32) < 0 ∨ cl177.slots.size ≤ ((1 : Int32)).toNatClampNeg) := inb_of Sz177 ⟨by decide, by decide⟩
  have hat178 : cl177.slots[((1 : Int32)).toNatClampNeg]? = some (.ref i1) := Has.at Hh177 hin178 rfl
  have Fc179 := ((V_i1.other W121 ne_i1_uP).other W151 ne_i1_uQ)
  obtain ⟨_, T180, L180, X180, hQ180, st180⟩ := own_cS X171 hx hZ hw hown (W := 0) (rmm7 l Z a0 hw [] i1 ki z0 z1 h151 n0 ZZ152 Fc179 g_i1) (by decide) (by decide) (by decide) 71 rfl 72 rfl 73 rfl 74 rfl e171 (g := (mkF m 80 #[oR r0, oR rw, oI 1, oI 2, oI 2, oU, oU, oU, oU, oU] [(.double 0), (.ref i1)])) rfl (by rw [hml]; rfl) (argsL := [(.ref i1), (.double 0)]) (rest := []) (lenOf pd3 rfl) rfl (Nat.le_of_eq rfl) (hb hby d6_80) rfl (cN := 3) rfl (by decide) (sN := 6) rfl (by decide)
  obtain ⟨rfl, Nq180, P180_0, P180_1⟩ := hQ180
  have N180 := Fr.app N151 Nq180
  have ZZ181 : n0 ≤ T180.heap.size := Nat.le_trans ZZ152 P180_0.1
  have KK182 : Keep h0 T180.heap [uP, uQ, i1] := Keep.trans KK153 P180_0 (allS (Or.inl (List.mem_of_getElem? (i := 2) rfl)) all0)
  have Fc183 := (F_inverse_r0.keep KK182 (ninS nq124 (ninS nq155 (ninS nq169 nin0))))
  obtain ⟨T184, X184, e184, st184⟩ := getF X180 hx hZ hown (host := "") (Or.inl (own_w hw 45 rfl)) Via.refl rfl Fc183 (g := (mkF m 84 #[oR r0, oR rw, oI 1, oI 2, oI 2, oU, oU, oU, oU, oU] [(.ref r0)])) rfl rfl (hb hby d6_84)
  have Fc185 := (V_ri.keep KK182 (ninS nq173 (ninS nq174 (ninS nq175 nin0))))
  obtain ⟨cl186, Ar186, qk186, Sz186, Nz186, Hh186, Gg186⟩ := id Fc185
  have hin187 : ¬ ((1 : Int32) < 0 ∨ cl186.slots.size ≤ ((1 : Int32)).toNatClampNeg) := inb_of Sz186 ⟨by decide, by decide⟩
  have hat187 : cl186.slots[((1 : Int32)).toNatClampNeg]? = some (.ref i1) := Has.at Hh186 hin187 rfl
  obtain ⟨cl188, Ar188, qk188, Sz188, Nz188, Hh188, Gg188⟩ := id P180_1
  have hin189 : ¬ ((1 : Int32) < 0 ∨ cl188.slots.size ≤ ((1 : Int32)).toNatClampNeg) := inb_of Sz188 ⟨by decide, by decide⟩
  obtain ⟨T190, h190, X190, e190, W190, st190⟩ := stD X184 hx hZ e184 Ar188 (j := (1 : Int32)) hin189 (g := (mkF m 91 #[oR r0, oR rw, oI 1, oI 2, oI 2, oU, oU, oU, oU, oU] [(.double 4607182418800017408), (.int 1), (.ref i1)])) rfl rfl (hb hby d6_91)
  have Va190 := Arv.set Ar188 qk188 Sz188 Nz188 Hh188 Gg188 rfl W190 1 rfl (Nat.le_of_ble_eq_true rfl)
  have N190 := Fr.snoc X190 N180 g_i1
  have ZZ191 : n0 ≤ h190.size := Nat.le_trans ZZ181 (Nat.le_of_eq W190.size.symm)
  have KK192 : Keep h0 h190 [uP, uQ, i1] := KK182.wr W190 (Or.inl (List.mem_of_getElem? (i := 2) rfl))
  refine ⟨_, _, X190, N190, (by rw [e190]; exact KK192), (by rw [e190]; exact Va190), (by rw [e190]; exact (((Va121.other W151 ne_uP_uQ).keep P180_0 (ninS (Ne.symm ne_i1_uP) nin0)).other W190 (Ne.symm ne_i1_uP))), (by rw [e190]; exact ((Va151.keep P180_0 (ninS (Ne.symm ne_i1_uQ) nin0)).other W190 (Ne.symm ne_i1_uQ))), fun t kt => ?_⟩
  show own_S p e below s₁ m 15 #[oR r0, oR rw, oI 1, oI l3, oI l4, oU, oU, oU, oU, oU] [] _
  refine XS.iloadN X0.here hx rfl (hb hby d6_15) rfl ?_
  refine XS.aloadN X0.here hx rfl (hb hby d6_16) rfl rfl ?_
  show own_S p e below s₁ m 17 _ [(.ref r0), (.int 1)] _
  refine st101 _ ?_
  show own_S p e below T101 m 20 _ [(.int 2), (.int 1)] _
  refine XS.icmpNo X101.here hx rfl (hb hby d6_20) rfl (tlt (by decide : (1 : Int32) < (2 : Int32))).2.1 ?_
  refine XS.aloadN X101.here hx rfl (hb hby d6_23) rfl rfl ?_
  show own_S p e below T101 m 24 _ [(.ref r0)] _
  refine st102 _ ?_
  show own_S p e below T102 m 27 _ [(.ref ba)] _
  refine XS.iloadN X102.here hx rfl (hb hby d6_27) rfl ?_
  show own_S p e below T102 m 28 #[oR r0, oR rw, oI 1, oI l3, oI l4, oU, oU, oU, oU, oU] [(.int 1), (.ref ba)] _
  refine X102.iaload hx (j := (1 : Int32)) (v := (.int 2)) (by rw [e102]; exact Ar103.1) (State.isArrayOf_alike hZ.alike Ar103.2.1) Ar103.2.2 hin104 hat104 (g := (mkF m 28 #[oR r0, oR rw, oI 1, oI l3, oI l4, oU, oU, oU, oU, oU] [(.int 1), (.ref ba)])) rfl rfl (hb hby d6_28) _ ?_
  show own_S p e below T102 m 29 _ [(.int 2)] _
  refine XS.istoreN X102.here hx rfl (hb hby d6_29) rfl (l' := #[oR r0, oR rw, oI 1, oI 2, oI l4, oU, oU, oU, oU, oU]) rfl ?_
  refine XS.iconst X102.here hx rfl (hb hby d6_30) ?_
  refine XS.istore X102.here hx rfl (hb hby d6_31) rfl (l' := #[oR r0, oR rw, oI 1, oI 2, oI 0, oU, oU, oU, oU, oU]) rfl ?_
  refine XS.iload X102.here hx rfl (hb hby d6_33) rfl ?_
  show own_S p e below T102 m 35 _ [(.int 0)] _
  refine XS.aloadN X102.here hx rfl (hb hby d6_35) rfl rfl ?_
  show own_S p e below T102 m 36 _ [(.ref r0), (.int 0)] _
  refine st105 _ ?_
  show own_S p e below T105 m 39 _ [(.ref er), (.int 0)] _
  refine XS.iloadN X105.here hx rfl (hb hby d6_39) rfl ?_
  show own_S p e below T105 m 40 _ [(.int 2), (.ref er), (.int 0)] _
  refine X105.aaload hx (j := (2 : Int32)) (v := (.ref e2)) (by rw [e105]; exact Ar106.1) (State.isArrayOf_alike hZ.alike Ar106.2.1) rfl Ar106.2.2 hin107 hat107 (g := (mkF m 40 #[oR r0, oR rw, oI 1, oI 2, oI 0, oU, oU, oU, oU, oU] [(.int 2), (.ref er), (.int 0)])) rfl rfl (hb hby d6_40) _ ?_
  show own_S p e below T105 m 41 _ [(.ref e2), (.int 0)] _
  refine X105.arraylength hx (by rw [e105]; exact Ar108.1) (State.isArrayOf_alike hZ.alike Ar108.2.1) (g := (mkF m 41 #[oR r0, oR rw, oI 1, oI 2, oI 0, oU, oU, oU, oU, oU] [(.ref e2), (.int 0)])) rfl rfl (hb hby d6_41) _ ?_
  rw [len_of Sz108 Nz108]
  show own_S p e below T105 m 42 _ [(.int 2), (.int 0)] _
  refine XS.icmpNo X105.here hx rfl (hb hby d6_42) rfl (tlt (by decide : (0 : Int32) < (2 : Int32))).2.1 ?_
  refine XS.aloadN X105.here hx rfl (hb hby d6_45) rfl rfl ?_
  refine XS.aloadN X105.here hx rfl (hb hby d6_46) rfl rfl ?_
  show own_S p e below T105 m 47 _ [(.ref r0), (.ref rw)] _
  refine st109 _ ?_
  show own_S p e below T109 m 50 _ [(.ref er), (.ref rw)] _
  refine XS.iloadN X109.here hx rfl (hb hby d6_50) rfl ?_
  show own_S p e below T109 m 51 _ [(.int 2), (.ref er), (.ref rw)] _
  refine X109.aaload hx (j := (2 : Int32)) (v := (.ref e2)) (by rw [e109]; exact Ar106.1) (State.isArrayOf_alike hZ.alike Ar106.2.1) rfl Ar106.2.2 hin110 hat110 (g := (mkF m 51 #[oR r0, oR rw, oI 1, oI 2, oI 0, oU, oU, oU, oU, oU] [(.int 2), (.ref er), (.ref rw)])) rfl rfl (hb hby d6_51) _ ?_
  show own_S p e below T109 m 52 _ [(.ref e2), (.ref rw)] _
  refine XS.iload X109.here hx rfl (hb hby d6_52) rfl ?_
  show own_S p e below T109 m 54 _ [(.int 0), (.ref e2), (.ref rw)] _
  refine X109.iaload hx (j := (0 : Int32)) (v := (.int pr0)) (by rw [e109]; exact Ar108.1) (State.isArrayOf_alike hZ.alike Ar108.2.1) Ar108.2.2 hin111 hat111 (g := (mkF m 54 #[oR r0, oR rw, oI 1, oI 2, oI 0, oU, oU, oU, oU, oU] [(.int 0), (.ref e2), (.ref rw)])) rfl rfl (hb hby d6_54) _ ?_
  show own_S p e below T109 m 55 #[oR r0, oR rw, oI 1, oI 2, oI 0, oU, oU, oU, oU, oU] [(.int pr0), (.ref rw)] _
  refine X109.aaload hx (j := pr0) (v := (.ref uP)) (by rw [e109]; exact Ar112.1) (State.isArrayOf_alike hZ.alike Ar112.2.1) rfl Ar112.2.2 hin113 hat113 (g := (mkF m 55 #[oR r0, oR rw, oI 1, oI 2, oI 0, oU, oU, oU, oU, oU] [(.int pr0), (.ref rw)])) rfl rfl (hb hby d6_55) _ ?_
  show own_S p e below T109 m 56 _ [(.ref uP)] _
  refine XS.iloadN X109.here hx rfl (hb hby d6_56) rfl ?_
  refine XS.aloadN X109.here hx rfl (hb hby d6_57) rfl rfl ?_
  show own_S p e below T109 m 58 _ [(.ref r0), (.int 1), (.ref uP)] _
  refine st114 _ ?_
  show own_S p e below T114 m 61 _ [(.ref ev), (.int 1), (.ref uP)] _
  refine XS.iloadN X114.here hx rfl (hb hby d6_61) rfl ?_
  show own_S p e below T114 m 62 _ [(.int 2), (.ref ev), (.int 1), (.ref uP)] _
  refine X114.aaload hx (j := (2 : Int32)) (v := (.ref f2)) (by rw [e114]; exact Ar115.1) (State.isArrayOf_alike hZ.alike Ar115.2.1) rfl Ar115.2.2 hin116 hat116 (g := (mkF m 62 #[oR r0, oR rw, oI 1, oI 2, oI 0, oU, oU, oU, oU, oU] [(.int 2), (.ref ev), (.int 1), (.ref uP)])) rfl rfl (hb hby d6_62) _ ?_
  show own_S p e below T114 m 63 _ [(.ref f2), (.int 1), (.ref uP)] _
  refine XS.iload X114.here hx rfl (hb hby d6_63) rfl ?_
  show own_S p e below T114 m 65 #[oR r0, oR rw, oI 1, oI 2, oI 0, oU, oU, oU, oU, oU] [(.int 0), (.ref f2), (.int 1), (.ref uP)] _
  refine X114.daload hx (j := (0 : Int32)) (v := (.double va0)) (by rw [e114]; exact Ar117.1) (State.isArrayOf_alike hZ.alike Ar117.2.1) Ar117.2.2 hin118 hat118 (g := (mkF m 65 #[oR r0, oR rw, oI 1, oI 2, oI 0, oU, oU, oU, oU, oU] [(.int 0), (.ref f2), (.int 1), (.ref uP)])) rfl rfl (hb hby d6_65) _ ?_
  show own_S p e below T114 m 66 _ [(.double va0), (.int 1), (.ref uP)] _
  refine st121 _ ?_
  show own_S p e below T121 m 67 _ [] _
  refine XS.iinc X121.here hx rfl (hb hby d6_67) rfl (l' := #[oR r0, oR rw, oI 1, oI 2, oI 1, oU, oU, oU, oU, oU]) rfl ?_
  refine XS.goto X121.here hx rfl (pc0 := 70) (pc' := 33) rfl (hb hby d6_70) (by decide) (by decide) ?_
  refine XS.iload X121.here hx rfl (hb hby d6_33) rfl ?_
  refine XS.aloadN X121.here hx rfl (hb hby d6_35) rfl rfl ?_
  show own_S p e below T121 m 36 _ [(.ref r0), (.int 1)] _
  refine st126 _ ?_
  show own_S p e below T126 m 39 _ [(.ref er), (.int 1)] _
  refine XS.iloadN X126.here hx rfl (hb hby d6_39) rfl ?_
  show own_S p e below T126 m 40 _ [(.int 2), (.ref er), (.int 1)] _
  refine X126.aaload hx (j := (2 : Int32)) (v := (.ref e2)) (by rw [e126]; exact Ar128.1) (State.isArrayOf_alike hZ.alike Ar128.2.1) rfl Ar128.2.2 hin129 hat129 (g := (mkF m 40 #[oR r0, oR rw, oI 1, oI 2, oI 1, oU, oU, oU, oU, oU] [(.int 2), (.ref er), (.int 1)])) rfl rfl (hb hby d6_40) _ ?_
  show own_S p e below T126 m 41 _ [(.ref e2), (.int 1)] _
  refine X126.arraylength hx (by rw [e126]; exact Ar131.1) (State.isArrayOf_alike hZ.alike Ar131.2.1) (g := (mkF m 41 #[oR r0, oR rw, oI 1, oI 2, oI 1, oU, oU, oU, oU, oU] [(.ref e2), (.int 1)])) rfl rfl (hb hby d6_41) _ ?_
  rw [len_of Sz131 Nz131]
  show own_S p e below T126 m 42 #[oR r0, oR rw, oI 1, oI 2, oI 1, oU, oU, oU, oU, oU] [(.int 2), (.int 1)] _
  refine XS.icmpNo X126.here hx rfl (hb hby d6_42) rfl (tlt (by decide : (1 : Int32) < (2 : Int32))).2.1 ?_
  refine XS.aloadN X126.here hx rfl (hb hby d6_45) rfl rfl ?_
  refine XS.aloadN X126.here hx rfl (hb hby d6_46) rfl rfl ?_
  show own_S p e below T126 m 47 _ [(.ref r0), (.ref rw)] _
  refine st132 _ ?_
  show own_S p e below T132 m 50 _ [(.ref er), (.ref rw)] _
  refine XS.iloadN X132.here hx rfl (hb hby d6_50) rfl ?_
  show own_S p e below T132 m 51 _ [(.int 2), (.ref er), (.ref rw)] _
  refine X132.aaload hx (j := (2 : Int32)) (v := (.ref e2)) (by rw [e132]; exact Ar133.1) (State.isArrayOf_alike hZ.alike Ar133.2.1) rfl Ar133.2.2 hin134 hat134 (g := (mkF m 51 #[oR r0, oR rw, oI 1, oI 2, oI 1, oU, oU, oU, oU, oU] [(.int 2), (.ref er), (.ref rw)])) rfl rfl (hb hby d6_51) _ ?_
  show own_S p e below T132 m 52 _ [(.ref e2), (.ref rw)] _
  refine XS.iload X132.here hx rfl (hb hby d6_52) rfl ?_
  show own_S p e below T132 m 54 #[oR r0, oR rw, oI 1, oI 2, oI 1, oU, oU, oU, oU, oU] [(.int 1), (.ref e2), (.ref rw)] _
  refine X132.iaload hx (j := (1 : Int32)) (v := (.int pr1)) (by rw [e132]; exact Ar135.1) (State.isArrayOf_alike hZ.alike Ar135.2.1) Ar135.2.2 hin136 hat136 (g := (mkF m 54 #[oR r0, oR rw, oI 1, oI 2, oI 1, oU, oU, oU, oU, oU] [(.int 1), (.ref e2), (.ref rw)])) rfl rfl (hb hby d6_54) _ ?_
  show own_S p e below T132 m 55 _ [(.int pr1), (.ref rw)] _
  refine X132.aaload hx (j := pr1) (v := (.ref uQ)) (by rw [e132]; exact Ar138.1) (State.isArrayOf_alike hZ.alike Ar138.2.1) rfl Ar138.2.2 hin139 hat139 (g := (mkF m 55 #[oR r0, oR rw, oI 1, oI 2, oI 1, oU, oU, oU, oU, oU] [(.int pr1), (.ref rw)])) rfl rfl (hb hby d6_55) _ ?_
  show own_S p e below T132 m 56 _ [(.ref uQ)] _
  refine XS.iloadN X132.here hx rfl (hb hby d6_56) rfl ?_
  refine XS.aloadN X132.here hx rfl (hb hby d6_57) rfl rfl ?_
  show own_S p e below T132 m 58 _ [(.ref r0), (.int 1), (.ref uQ)] _
  refine st141 _ ?_
  show own_S p e below T141 m 61 _ [(.ref ev), (.int 1), (.ref uQ)] _
  refine XS.iloadN X141.here hx rfl (hb hby d6_61) rfl ?_
  show own_S p e below T141 m 62 _ [(.int 2), (.ref ev), (.int 1), (.ref uQ)] _
  refine X141.aaload hx (j := (2 : Int32)) (v := (.ref f2)) (by rw [e141]; exact Ar143.1) (State.isArrayOf_alike hZ.alike Ar143.2.1) rfl Ar143.2.2 hin144 hat144 (g := (mkF m 62 #[oR r0, oR rw, oI 1, oI 2, oI 1, oU, oU, oU, oU, oU] [(.int 2), (.ref ev), (.int 1), (.ref uQ)])) rfl rfl (hb hby d6_62) _ ?_
  show own_S p e below T141 m 63 #[oR r0, oR rw, oI 1, oI 2, oI 1, oU, oU, oU, oU, oU] [(.ref f2), (.int 1), (.ref uQ)] _
  refine XS.iload X141.here hx rfl (hb hby d6_63) rfl ?_
  show own_S p e below T141 m 65 _ [(.int 1), (.ref f2), (.int 1), (.ref uQ)] _
  refine X141.daload hx (j := (1 : Int32)) (v := (.double va1)) (by rw [e141]; exact Ar146.1) (State.isArrayOf_alike hZ.alike Ar146.2.1) Ar146.2.2 hin147 hat147 (g := (mkF m 65 #[oR r0, oR rw, oI 1, oI 2, oI 1, oU, oU, oU, oU, oU] [(.int 1), (.ref f2), (.int 1), (.ref uQ)])) rfl rfl (hb hby d6_65) _ ?_
  show own_S p e below T141 m 66 _ [(.double va1), (.int 1), (.ref uQ)] _
  refine st151 _ ?_
  show own_S p e below T151 m 67 _ [] _
  refine XS.iinc X151.here hx rfl (hb hby d6_67) rfl (l' := #[oR r0, oR rw, oI 1, oI 2, oI 2, oU, oU, oU, oU, oU]) rfl ?_
  refine XS.goto X151.here hx rfl (pc0 := 70) (pc' := 33) rfl (hb hby d6_70) (by decide) (by decide) ?_
  refine XS.iload X151.here hx rfl (hb hby d6_33) rfl ?_
  refine XS.aloadN X151.here hx rfl (hb hby d6_35) rfl rfl ?_
  show own_S p e below T151 m 36 _ [(.ref r0), (.int 2)] _
  refine st157 _ ?_
  show own_S p e below T157 m 39 _ [(.ref er), (.int 2)] _
  refine XS.iloadN X157.here hx rfl (hb hby d6_39) rfl ?_
  show own_S p e below T157 m 40 _ [(.int 2), (.ref er), (.int 2)] _
  refine X157.aaload hx (j := (2 : Int32)) (v := (.ref e2)) (by rw [e157]; exact Ar162.1) (State.isArrayOf_alike hZ.alike Ar162.2.1) rfl Ar162.2.2 hin163 hat163 (g := (mkF m 40 #[oR r0, oR rw, oI 1, oI 2, oI 2, oU, oU, oU, oU, oU] [(.int 2), (.ref er), (.int 2)])) rfl rfl (hb hby d6_40) _ ?_
  show own_S p e below T157 m 41 _ [(.ref e2), (.int 2)] _
  refine X157.arraylength hx (by rw [e157]; exact Ar168.1) (State.isArrayOf_alike hZ.alike Ar168.2.1) (g := (mkF m 41 #[oR r0, oR rw, oI 1, oI 2, oI 2, oU, oU, oU, oU, oU] [(.ref e2), (.int 2)])) rfl rfl (hb hby d6_41) _ ?_
  rw [len_of Sz168 Nz168]
  show own_S p e below T157 m 42 #[oR r0, oR rw, oI 1, oI 2, oI 2, oU, oU, oU, oU, oU] [(.int 2), (.int 2)] _
  refine XS.icmpYes X157.here hx rfl (pc0 := 42) (pc' := 73) rfl (hb hby d6_42) rfl (flt (by decide : ¬ ((2 : Int32) < (2 : Int32)))).2.1 (by decide) (by decide) ?_
  refine XS.aloadN X157.here hx rfl (hb hby d6_73) rfl rfl ?_
  show own_S p e below T157 m 74 _ [(.ref r0)] _
  refine st171 _ ?_
  show own_S p e below T171 m 77 _ [(.ref ri)] _
  refine XS.iloadN X171.here hx rfl (hb hby d6_77) rfl ?_
  show own_S p e below T171 m 78 _ [(.int 1), (.ref ri)] _
  refine X171.aaload hx (j := (1 : Int32)) (v := (.ref i1)) (by rw [e171]; exact Ar177.1) (State.isArrayOf_alike hZ.alike Ar177.2.1) rfl Ar177.2.2 hin178 hat178 (g := (mkF m 78 #[oR r0, oR rw, oI 1, oI 2, oI 2, oU, oU, oU, oU, oU] [(.int 1), (.ref ri)])) rfl rfl (hb hby d6_78) _ ?_
  show own_S p e below T171 m 79 _ [(.ref i1)] _
  refine XS.dconst0 X171.here hx rfl (v := 0) (hb hby d6_79) rfl ?_
  show own_S p e below T171 m 80 _ [(.double 0), (.ref i1)] _
  refine st180.trans ?_
  show own_S p e below T180 m 83 #[oR r0, oR rw, oI 1, oI 2, oI 2, oU, oU, oU, oU, oU] [] _
  refine XS.aloadN X180.here hx rfl (hb hby d6_83) rfl rfl ?_
  show own_S p e below T180 m 84 _ [(.ref r0)] _
  refine st184 _ ?_
  show own_S p e below T184 m 87 _ [(.ref ri)] _
  refine XS.iloadN X184.here hx rfl (hb hby d6_87) rfl ?_
  show own_S p e below T184 m 88 _ [(.int 1), (.ref ri)] _
  refine X184.aaload hx (j := (1 : Int32)) (v := (.ref i1)) (by rw [e184]; exact Ar186.1) (State.isArrayOf_alike hZ.alike Ar186.2.1) rfl Ar186.2.2 hin187 hat187 (g := (mkF m 88 #[oR r0, oR rw, oI 1, oI 2, oI 2, oU, oU, oU, oU, oU] [(.int 1), (.ref ri)])) rfl rfl (hb hby d6_88) _ ?_
  show own_S p e below T184 m 89 _ [(.ref i1)] _
  refine XS.iloadN X184.here hx rfl (hb hby d6_89) rfl ?_
  refine XS.dconst1 X184.here hx rfl (v := 4607182418800017408) (hb hby d6_90) rfl ?_
  show own_S p e below T184 m 91 _ [(.double 4607182418800017408), (.int 1), (.ref i1)] _
  refine st190 _ ?_
  show own_S p e below T190 m 92 #[oR r0, oR rw, oI 1, oI 2, oI 2, oU, oU, oU, oU, oU] [] _
  refine XS.iinc X190.here hx rfl (hb hby d6_92) rfl (l' := #[oR r0, oR rw, oI 2, oI 2, oI 2, oU, oU, oU, oU, oU]) rfl ?_
  refine XS.goto X190.here hx rfl (pc0 := 95) (pc' := 15) rfl (hb hby d6_95) (by decide) (by decide) ?_
  exact kt
theorem d6_0 : decode k6 0 = .ok (.aload_n 0, 1) := by decide +kernel
theorem d6_1 : decode k6 1 = .ok (.getfield 31, 3) := by decide +kernel
theorem d6_4 : decode k6 4 = .ok (.aload_n 0, 1) := by decide +kernel
theorem d6_5 : decode k6 5 = .ok (.getfield 31, 3) := by decide +kernel
theorem d6_8 : decode k6 8 = .ok (.multianewarray 45 2, 4) := by decide +kernel
theorem d6_12 : decode k6 12 = .ok (.astore_n 1, 1) := by decide +kernel
theorem d6_13 : decode k6 13 = .ok (.iconst 0, 1) := by decide +kernel
theorem d6_14 : decode k6 14 = .ok (.istore_n 2, 1) := by decide +kernel
theorem d6_98 : decode k6 98 = .ok (.iconst 0, 1) := by decide +kernel
theorem d6_99 : decode k6 99 = .ok (.istore_n 2, 1) := by decide +kernel
theorem d6_124 : decode k6 124 = .ok (.aload_n 1, 1) := by decide +kernel
theorem d6_125 : decode k6 125 = .ok (.iload 4, 2) := by decide +kernel
theorem d6_127 : decode k6 127 = .ok (.aaload, 1) := by decide +kernel
theorem d6_128 : decode k6 128 = .ok (.iload_n 2, 1) := by decide +kernel
theorem d6_129 : decode k6 129 = .ok (.daload, 1) := by decide +kernel
theorem d6_130 : decode k6 130 = .ok (.invokestatic 121, 3) := by decide +kernel
theorem d6_133 : decode k6 133 = .ok (.aload_n 1, 1) := by decide +kernel
theorem d6_134 : decode k6 134 = .ok (.iload_n 3, 1) := by decide +kernel
theorem d6_135 : decode k6 135 = .ok (.aaload, 1) := by decide +kernel
theorem d6_136 : decode k6 136 = .ok (.iload_n 2, 1) := by decide +kernel
theorem d6_137 : decode k6 137 = .ok (.daload, 1) := by decide +kernel
theorem d6_138 : decode k6 138 = .ok (.invokestatic 121, 3) := by decide +kernel
theorem d6_141 : decode k6 141 = .ok (.dcmp .l, 1) := by decide +kernel
theorem d6_142 : decode k6 142 = .ok (.ifCond .le 6, 3) := by decide +kernel
theorem d6_148 : decode k6 148 = .ok (.iinc 4 1, 3) := by decide +kernel
theorem d6_151 : decode k6 151 = .ok (.goto (-36), 3) := by decide +kernel
theorem d6_406 : decode k6 406 = .ok (.aload_n 0, 1) := by decide +kernel
theorem d6_407 : decode k6 407 = .ok (.iconst 0, 1) := by decide +kernel
theorem d6_408 : decode k6 408 = .ok (.putfield 84, 3) := by decide +kernel
theorem d6_411 : decode k6 411 = .ok (.iconst 1, 1) := by decide +kernel
theorem d6_412 : decode k6 412 = .ok (.ireturn, 1) := by decide +kernel
theorem ef6_00 (m : MethodId) (r0 : Addr) : entryFrame m #[(.ref r0)] 10 = mkF m 0 #[oR r0, oU, oU, oU, oU, oU, oU, oU, oU, oU] [] := by first | (simp [entryFrame, mkF, argsToLocals, Value.category]; done) | rfl
def Q6_00 (Z : State) (r0 : Addr) (co : Addr) (fr : Addr) (er : Addr) (ev : Addr) (pl : Addr) (rh : Addr) (ba : Addr) (ri : Addr) (va : Addr) (i0 : Addr) (i1 : Addr) (e1 : Addr) (e2 : Addr) (f1 : Addr) (f2 : Addr) (ker : ClassId) (kev : ClassId) (krh : ClassId) (kba : ClassId) (kri : ClassId) (ki : ClassId) (kva : ClassId) (ke1 : ClassId) (ke2 : ClassId) (kf1 : ClassId) (kf2 : ClassId) (wE : Value) (wF : Value) (wC : Value) (d0 : UInt64) (d1 : UInt64) (ee : UInt64) (g0 : UInt64) (g1 : UInt64) (i00 : UInt64) (i01 : UInt64) (i10 : UInt64) (i11 : UInt64) (h0 : Heap) (n0 : Nat) (v : Option Value) (h : Heap) (L : List Loc) : Prop := ∃ j0 : Addr, ∃ j1 : Addr, v = some (.int 1) ∧ Fr n0 L ∧ (Keep h0 h [r0, ri, i0, i1, va]) ∧ (Fld Z h r0 own_K1 "costs" "[D" (.ref co)) ∧ (Fld Z h r0 own_K1 "free" "[Z" (.ref fr)) ∧ (Fld Z h r0 own_K1 "entryRows" "[[I" (.ref er)) ∧ (Fld Z h r0 own_K1 "entryValues" "[[D" (.ref ev)) ∧ (Fld Z h r0 own_K1 "place" "[I" (.ref pl)) ∧ (Fld Z h r0 own_K1 "rows" "I" (.int 2)) ∧ (Fld Z h r0 own_K1 "rhs" "[D" (.ref rh)) ∧ (Fld Z h r0 own_K1 "basic" "[I" (.ref ba)) ∧ (Fld Z h r0 own_K1 "inverse" "[[D" (.ref ri)) ∧ (Fld Z h r0 own_K1 "values" "[D" (.ref va)) ∧ (Fld Z h r0 own_K1 "columns" "I" wC) ∧ (Exa Z h r0 own_K1) ∧ (Arv Z h ri kri (.array .double) (2 : Int32) [(.ref j0), (.ref j1)] .null) ∧ (Arv Z h j0 ki .double (2 : Int32) [(.double i00), (.double i01)] (.double 0)) ∧ (Arv Z h j1 ki .double (2 : Int32) [(.double i10), (.double i11)] (.double 0)) ∧ (Arv Z h va kva .double (2 : Int32) [(.double 4607182418800017408), (.double 4607182418800017408)] (.double 0)) ∧ (Exa Z h j0 "[D") ∧ (Exa Z h j1 "[D")
set_option maxRecDepth 65536 in
set_option maxHeartbeats 40000000 in
theorem rm6_00 (l : Launch) (Z : State) (a0 : Array Value) (hw : own_HW Z a0) (ws : List Jvm.Cond) (r0 : Addr) (co : Addr) (fr : Addr) (er : Addr) (ev : Addr) (pl : Addr) (rh : Addr) (ba : Addr) (ri : Addr) (va : Addr) (i0 : Addr) (i1 : Addr) (e1 : Addr) (e2 : Addr) (f1 : Addr) (f2 : Addr) (ker : ClassId) (kev : ClassId) (krh : ClassId) (kba : ClassId) (kri : ClassId) (ki : ClassId) (kva : ClassId) (ke1 : ClassId) (ke2 : ClassId) (kf1 : ClassId) (kf2 : ClassId) (wE : Value) (wF : Value) (wC : Value) (d0 : UInt64) (d1 : UInt64) (ee : UInt64) (g0 : UInt64) (g1 : UInt64) (i00 : UInt64) (i01 : UInt64) (i10 : UInt64) (i11 : UInt64) (h0 : Heap) (n0 : Nat) (Z0 : n0 ≤ h0.size) (F_costs_r0 : Fld Z h0 r0 own_K1 "costs" "[D" (.ref co)) (F_free_r0 : Fld Z h0 r0 own_K1 "free" "[Z" (.ref fr)) (F_entryRows_r0 : Fld Z h0 r0 own_K1 "entryRows" "[[I" (.ref er)) (F_entryValues_r0 : Fld Z h0 r0 own_K1 "entryValues" "[[D" (.ref ev)) (F_place_r0 : Fld Z h0 r0 own_K1 "place" "[I" (.ref pl)) (F_rows_r0 : Fld Z h0 r0 own_K1 "rows" "I" (.int 2)) (F_rhs_r0 : Fld Z h0 r0 own_K1 "rhs" "[D" (.ref rh)) (F_basic_r0 : Fld Z h0 r0 own_K1 "basic" "[I" (.ref ba)) (F_inverse_r0 : Fld Z h0 r0 own_K1 "inverse" "[[D" (.ref ri)) (F_values_r0 : Fld Z h0 r0 own_K1 "values" "[D" (.ref va)) (F_columns_r0 : Fld Z h0 r0 own_K1 "columns" "I" wC) (F_pivotsSinceRefresh_r0 : Fld Z h0 r0 own_K1 "pivotsSinceRefresh" "I" (.int 0)) (V_er : Arv Z h0 er ker (.array .int) (16 : Int32) [wE, (.ref e1), (.ref e2)] .null) (V_ev : Arv Z h0 ev kev (.array .double) (16 : Int32) [wF, (.ref f1), (.ref f2)] .null) (V_rh : Arv Z h0 rh krh .double (2 : Int32) [(.double g0), (.double g1)] (.double 0)) (V_ba : Arv Z h0 ba kba .int (2 : Int32) [(.int 1), (.int 2)] (.int 0)) (V_ri : Arv Z h0 ri kri (.array .double) (2 : Int32) [(.ref i0), (.ref i1)] .null) (V_i0 : Arv Z h0 i0 ki .double (2 : Int32) [(.double 0), (.double 0)] (.double 0)) (V_i1 : Arv Z h0 i1 ki .double (2 : Int32) [(.double 0), (.double 0)] (.double 0)) (V_va : Arv Z h0 va kva .double (2 : Int32) [(.double 0), (.double 0)] (.double 0)) (V_e1 : Arv Z h0 e1 ke1 .int (1 : Int32) [(.int 0)] (.int 0)) (V_e2 : Arv Z h0 e2 ke2 .int (2 : Int32) [(.int 0), (.int 1)] (.int 0)) (V_f1 : Arv Z h0 f1 kf1 .double (1 : Int32) [(.double d0)] (.double 0)) (V_f2 : Arv Z h0 f2 kf2 .double (2 : Int32) [(.double ee), (.double d1)] (.double 0)) (E_r0 : Exa Z h0 r0 own_K1) (E_er : Exa Z h0 er "[[I") (E_ev : Exa Z h0 ev "[[D") (E_rh : Exa Z h0 rh "[D") (E_ba : Exa Z h0 ba "[I") (E_ri : Exa Z h0 ri "[[D") (E_i0 : Exa Z h0 i0 "[D") (E_i1 : Exa Z h0 i1 "[D") (E_va : Exa Z h0 va "[D") (E_e1 : Exa Z h0 e1 "[I") (E_e2 : Exa Z h0 e2 "[I") (E_f1 : Exa Z h0 f1 "[D") (E_f2 : Exa Z h0 f2 "[D") (O_ri : OvrA Z kri .double "[D") (g_r0 : n0 ≤ r0) (g_ri : n0 ≤ ri) (g_i0 : n0 ≤ i0) (g_i1 : n0 ≤ i1) (g_va : n0 ≤ va) (ne_i0_i1 : i0 ≠ i1) (ne_f1_i0 : f1 ≠ i0) (ne_f1_i1 : f1 ≠ i1) (ne_f2_i0 : f2 ≠ i0) (ne_f2_i1 : f2 ≠ i1) (ne_va_i0 : va ≠ i0) (ne_va_i1 : va ≠ i1) (ne_rh_i0 : rh ≠ i0) (ne_rh_i1 : rh ≠ i1) (ne_rh_va : rh ≠ va) (hn0 : NoNaN64 d0) (hn1 : NoNaN64 d1) (hne : NoNaN64 ee) (hH : ¬ ((0 : Int32) < own_pv 0 d0) ∧ own_ok g0 g1 d0 ee 0 d1 (4607182418800017408 : UInt64) 0 0 (4607182418800017408 : UInt64) i00 i01 i10 i11) :
    MetFree l (⟨own_K1, "refresh", "()Z"⟩ : MethodName) (head1 (Jvm.Cond.code (⟨own_K1, "refresh", "()Z"⟩ : MethodName) prog_41_method_12_code 10 (some .boolean) :: ws) ({ frames := 1, cells := 3, slots := 6, locals := 40 } : Room)) (fun a U => a = #[(.ref r0)] ∧ Z.Warmed39 U.vm ∧ U.heap = h0) (fun _ _ _ _ _ => True) (fun _ U o U' => ∃ v L, o = .returned v ∧ Q6_00 Z r0 co fr er ev pl rh ba ri va i0 i1 e1 e2 f1 f2 ker kev krh kba kri ki kva ke1 ke2 kf1 kf2 wE wF wC d0 d1 ee g0 g1 i00 i01 i10 i11 h0 n0 v U'.heap L ∧ FrameEnd U o U' L ({ frames := 1, cells := 3, slots := 6, locals := 40 } : Room).cells ({ frames := 1, cells := 3, slots := 6, locals := 40 } : Room).slots) := by
  refine MetFree.of_bodySF (plainFor_of_name pn1) hisR ?_
  intro p e s m args below meth c s₁ Bd hml0 hP hK
  obtain ⟨rfl, hZ, hh⟩ := hP
  have hx := Bd.exec
  have hby := Bd.bytes
  have hml : c.maxLocals = 10 := hml0
  have hown : s.vm.findClass own_K1 = some m.cls := findClass_of_methodNamed Bd.named
  have hnm := (name_of_methodNamed Bd.named Bd.method).1
  have X0 : Stand p l e ({ frames := 1, cells := 3, slots := 6, locals := 40 } : Room) s m #[(.ref r0)] below meth c s₁ [] 0 0 := Stand.of_body Bd
  have e0 : s₁.heap = h0 := by rw [← hh, Bd.state]; rfl
  have N0 := Fr.nil n0
  have pre0 : ∀ t, Steps p.tables e below (s₁.setTop (mkF m 0 #[oR r0, oU, oU, oU, oU, oU, oU, oU, oU, oU] [])) t → Steps p.tables e below (s₁.setTop (entryFrame m #[(.ref r0)] 10)) t := fun t k => castTop (ef6_00 m r0) k
  obtain ⟨T101, X101, e101, st101⟩ := getF X0 hx hZ hown (host := "") (Or.inl (own_w hw 30 rfl)) Via.refl e0 F_rows_r0 (g := (mkF m 1 #[oR r0, oU, oU, oU, oU, oU, oU, oU, oU, oU] [(.ref r0)])) rfl rfl (hb hby d6_1)
  obtain ⟨T102, X102, e102, st102⟩ := getF X101 hx hZ hown (host := "") (Or.inl (own_w hw 30 rfl)) Via.refl e101 F_rows_r0 (g := (mkF m 5 #[oR r0, oU, oU, oU, oU, oU, oU, oU, oU, oU] [(.ref r0), (.int 2)])) rfl rfl (hb hby d6_5)
  obtain ⟨T103, h103, k103, kc103, X103, e103, E103, A103, O103, Ea103, Ai103, st103⟩ := gridM (xs := (List.range 2).map fun j => h0.size + 1 + j) X102 hx hZ hown (C := "[D") (by decide) (ad := "[[D") (by decide) (own_w hw 44 rfl) (own_w hw 24 rfl) (own_w hw 4 rfl) e102 (g := (mkF m 8 #[oR r0, oU, oU, oU, oU, oU, oU, oU, oU, oU] [(.int 2), (.int 2)])) rfl (hb hby d6_8) rfl (by decide) (by decide) (N := 2) (by decide) rfl (cap := 2) (by decide) (by decide) (by decide) rfl rfl (by decide) (by decide)
  obtain ⟨Aj103_0, Ej103_0⟩ : Arr Z h103 (h0.size + 1 + 0) (newA kc103 .double (2 : Int32)) .double ∧ Exa Z h103 (h0.size + 1 + 0) "[D" := Ai103 0 _ rfl
  obtain ⟨Aj103_1, Ej103_1⟩ : Arr Z h103 (h0.size + 1 + 1) (newA kc103 .double (2 : Int32)) .double ∧ Exa Z h103 (h0.size + 1 + 1) "[D" := Ai103 1 _ rfl
  replace A103 : Arv Z h103 h0.size k103 (.array .double) (2 : Int32) [.ref (h0.size + 1 + 0), .ref (h0.size + 1 + 1)] .null := A103
  obtain ⟨b103_2, gj103_1⟩ : ∃ z, z = h0.size + 1 + 1 := ⟨_, rfl⟩
  rw [← gj103_1] at A103 Aj103_1 Ej103_1
  obtain ⟨b103_1, gj103_0⟩ : ∃ z, z = h0.size + 1 + 0 := ⟨_, rfl⟩
  rw [← gj103_0] at A103 Aj103_0 Ej103_0
  obtain ⟨b103, g103⟩ : ∃ z, z = h0.size := ⟨_, rfl⟩
  rw [← g103] at A103 Ea103 st103
  have gl103_0 : h0.size ≤ b103 := by omega
  have g_b103 : n0 ≤ b103 := Nat.le_trans Z0 gl103_0
  have sz_b103 : h0.size ≤ b103 := Nat.le_trans (Keep.refl h0 [r0, ri, i0, i1, va]).1 gl103_0
  have gl103_1 : h0.size ≤ b103_1 := by omega
  have g_b103_1 : n0 ≤ b103_1 := Nat.le_trans Z0 gl103_1
  have sz_b103_1 : h0.size ≤ b103_1 := Nat.le_trans (Keep.refl h0 [r0, ri, i0, i1, va]).1 gl103_1
  have nq103_0_1 : b103 ≠ b103_1 := by omega
  have gl103_2 : h0.size ≤ b103_2 := by omega
  have g_b103_2 : n0 ≤ b103_2 := Nat.le_trans Z0 gl103_2
  have sz_b103_2 : h0.size ≤ b103_2 := Nat.le_trans (Keep.refl h0 [r0, ri, i0, i1, va]).1 gl103_2
  have nq103_0_2 : b103 ≠ b103_2 := by omega
  have nq103_1_2 : b103_1 ≠ b103_2 := by omega
  have ZZ104 : n0 ≤ h103.size := Nat.le_trans Z0 E103.1
  have KK105 : Keep h0 h103 [r0, ri, i0, i1, va] := (Keep.refl h0 [r0, ri, i0, i1, va]).ext E103
  have V_b103_1 : Arv Z h103 b103_1 kc103 .double (2 : Int32) [(.double 0), (.double 0)] (.double 0) := (Arv.new Aj103_0 (by decide)).pad (pad_rep [] (.double 0) 2)
  have V_b103_2 : Arv Z h103 b103_2 kc103 .double (2 : Int32) [(.double 0), (.double 0)] (.double 0) := (Arv.new Aj103_1 (by decide)).pad (pad_rep [] (.double 0) 2)
  have Fc106 := (F_entryRows_r0.ext E103)
  have Fc107 := (F_entryValues_r0.ext E103)
  have nq108 : i0 ≠ b103_1 := (Nat.ne_of_lt (Nat.lt_of_lt_of_le E_i0.lt gl103_1))
  have nq109 : f1 ≠ b103_1 := (Nat.ne_of_lt (Nat.lt_of_lt_of_le E_f1.lt gl103_1))
  obtain ⟨T110, L110, X110, N110, P110_0, P110_1, P110_2, st110⟩ := own_X01 l Z a0 hw r0 b103 b103_1 b103_2 ri i0 i1 er ev ba e1 e2 f1 f2 b103_1 k103 kc103 kri ki ker kev kba ke1 kf1 wE wF (.int 2) (0 : Int32) d0 (0 : UInt64) (0 : UInt64) (0 : UInt64) (0 : UInt64) h103 n0 ZZ104 (F_rows_r0.ext E103) (F_basic_r0.ext E103) Fc106 Fc107 (F_inverse_r0.ext E103) A103 (V_er.ext E103) (V_ev.ext E103) (V_ba.ext E103) (V_ri.ext E103) (V_e1.ext E103) (V_f1.ext E103) (V_i0.ext E103) V_b103_1 (E_r0.ext E103) Ea103 (E_er.ext E103) (E_ev.ext E103) (E_ba.ext E103) (E_ri.ext E103) (E_e1.ext E103) (E_f1.ext E103) (E_i0.ext E103) Ej103_0 g_b103_1 g_i0 nq108 nq109 (⟨by decide, by decide⟩) rfl hx hby hml hZ hown hnm X103 e103 N0
  have ZZ111 : n0 ≤ T110.heap.size := Nat.le_trans ZZ104 P110_0.1
  have KK112 : Keep h0 T110.heap [r0, ri, i0, i1, va] := Keep.trans KK105 P110_0 (allS (Or.inr sz_b103_1) (allS (Or.inl (List.mem_of_getElem? (i := 2) rfl)) all0))
  have Fc113 := ((E_r0.ext E103).keep P110_0)
  have nq114 : r0 ≠ b103_1 := (ne_exa Fc113 (Ej103_0.keep P110_0) (by decide))
  have Fc115 := ((E_i0.ext E103).keep P110_0)
  have nq116 : r0 ≠ i0 := (ne_exa Fc113 Fc115 (by decide))
  have Fc117 := ((F_rows_r0.ext E103).keep P110_0 (ninS nq114 (ninS nq116 nin0)))
  have Fc118 := ((F_basic_r0.ext E103).keep P110_0 (ninS nq114 (ninS nq116 nin0)))
  have Fc119 := (Fc106.keep P110_0 (ninS nq114 (ninS nq116 nin0)))
  have Fc120 := (Fc107.keep P110_0 (ninS nq114 (ninS nq116 nin0)))
  have Fc121 := ((F_inverse_r0.ext E103).keep P110_0 (ninS nq114 (ninS nq116 nin0)))
  have nq122 : b103 ≠ i0 := (ne_exa (Ea103.keep P110_0) Fc115 (by decide))
  have Fc123 := (A103.keep P110_0 (ninS nq103_0_1 (ninS nq122 nin0)))
  have Fc124 := (E_er.keep KK112)
  have nq125 : er ≠ r0 := (ne_exa Fc124 Fc113 (by decide))
  have Fc126 := ((E_ri.ext E103).keep P110_0)
  have nq127 : er ≠ ri := (ne_exa Fc124 Fc126 (by decide))
  have nq128 : er ≠ i0 := (ne_exa Fc124 Fc115 (by decide))
  have Fc129 := ((E_i1.ext E103).keep P110_0)
  have nq130 : er ≠ i1 := (ne_exa Fc124 Fc129 (by decide))
  have Fc131 := ((E_va.ext E103).keep P110_0)
  have nq132 : er ≠ va := (ne_exa Fc124 Fc131 (by decide))
  have Fc133 := (V_er.keep KK112 (ninS nq125 (ninS nq127 (ninS nq128 (ninS nq130 (ninS nq132 nin0))))))
  have Fc134 := (E_ev.keep KK112)
  have nq135 : ev ≠ r0 := (ne_exa Fc134 Fc113 (by decide))
  have nq136 : ev ≠ b103_1 := (ne_exa Fc134 (Ej103_0.keep P110_0) (by decide))
  have nq137 : ev ≠ i0 := (ne_exa Fc134 Fc115 (by decide))
  have Fc138 := ((V_ev.ext E103).keep P110_0 (ninS nq136 (ninS nq137 nin0)))
  have Fc139 := (E_ba.keep KK112)
  have nq140 : ba ≠ r0 := (ne_exa Fc139 Fc113 (by decide))
  have nq141 : ba ≠ ri := (ne_exa Fc139 Fc126 (by decide))
  have nq142 : ba ≠ i0 := (ne_exa Fc139 Fc115 (by decide))
  have nq143 : ba ≠ i1 := (ne_exa Fc139 Fc129 (by decide))
  have nq144 : ba ≠ va := (ne_exa Fc139 Fc131 (by decide))
  have Fc145 := (V_ba.keep KK112 (ninS nq140 (ninS nq141 (ninS nq142 (ninS nq143 (ninS nq144 nin0))))))
  have nq146 : ri ≠ b103_1 := (ne_exa Fc126 (Ej103_0.keep P110_0) (by decide))
  have nq147 : ri ≠ i0 := (ne_exa Fc126 Fc115 (by decide))
  have Fc148 := ((V_ri.ext E103).keep P110_0 (ninS nq146 (ninS nq147 nin0)))
  have Fc149 := (E_e2.keep KK112)
  have nq150 : e2 ≠ r0 := (ne_exa Fc149 Fc113 (by decide))
  have nq151 : e2 ≠ ri := (ne_exa Fc149 Fc126 (by decide))
  have nq152 : e2 ≠ i0 := (ne_exa Fc149 Fc115 (by decide))
  have nq153 : e2 ≠ i1 := (ne_exa Fc149 Fc129 (by decide))
  have nq154 : e2 ≠ va := (ne_exa Fc149 Fc131 (by decide))
  have Fc155 := (V_e2.keep KK112 (ninS nq150 (ninS nq151 (ninS nq152 (ninS nq153 (ninS nq154 nin0))))))
  have Fc156 := (E_f2.keep KK112)
  have nq157 : f2 ≠ r0 := (ne_exa Fc156 Fc113 (by decide))
  have nq158 : f2 ≠ ri := (ne_exa Fc156 Fc126 (by decide))
  have nq159 : f2 ≠ b103_1 := (Nat.ne_of_lt (Nat.lt_of_lt_of_le E_f2.lt gl103_1))
  have Fc160 := ((V_f2.ext E103).keep P110_0 (ninS nq159 (ninS ne_f2_i0 nin0)))
  have nq161 : i1 ≠ b103_1 := (Nat.ne_of_lt (Nat.lt_of_lt_of_le E_i1.lt gl103_1))
  have Fc162 := ((V_i1.ext E103).keep P110_0 (ninS nq161 (ninS (Ne.symm ne_i0_i1) nin0)))
  have nq163 : i0 ≠ b103_2 := (Nat.ne_of_lt (Nat.lt_of_lt_of_le E_i0.lt gl103_2))
  have Fc164 := (V_b103_2.keep P110_0 (ninS (Ne.symm nq103_1_2) (ninS (Ne.symm nq163) nin0)))
  have nq165 : i1 ≠ b103_2 := (Nat.ne_of_lt (Nat.lt_of_lt_of_le E_i1.lt gl103_2))
  have nq166 : f2 ≠ b103_2 := (Nat.ne_of_lt (Nat.lt_of_lt_of_le E_f2.lt gl103_2))
  obtain ⟨T167, L167, X167, N167, P167_0, P167_1, P167_2, P167_3, st167⟩ := own_X12 l Z a0 hw r0 b103 b103_1 b103_2 ri i0 i1 er ev ba e1 e2 f1 f2 b103_1 b103_2 k103 kc103 kri ki ker kev kba ke2 kf2 wE wF (.int 1) (0 : Int32) (1 : Int32) (1 : Int32) (1 : Int32) ee d1 d0 (0 : UInt64) (0 : UInt64) (0 : UInt64) (0 : UInt64) (0 : UInt64) T110.heap n0 ZZ111 Fc117 Fc118 Fc119 Fc120 Fc121 Fc123 Fc133 Fc138 Fc145 Fc148 Fc155 Fc160 Fc162 P110_2 Fc164 Fc113 (Ea103.keep P110_0) Fc124 Fc134 Fc139 Fc126 Fc149 Fc156 Fc129 (Ej103_0.keep P110_0) (Ej103_1.keep P110_0) g_b103_1 g_b103_2 g_i1 nq161 nq165 nq159 nq166 nq103_1_2 (⟨by decide, by decide⟩) rfl (⟨by decide, by decide⟩) rfl hx hby hml hZ hown hnm X110 rfl N110
  have ZZ168 : n0 ≤ T167.heap.size := Nat.le_trans ZZ111 P167_0.1
  have KK169 : Keep h0 T167.heap [r0, ri, i0, i1, va] := Keep.trans KK112 P167_0 (allS (Or.inr sz_b103_1) (allS (Or.inr sz_b103_2) (allS (Or.inl (List.mem_of_getElem? (i := 3) rfl)) all0)))
  have Fc170 := ((Ej103_1.keep P110_0).keep P167_0)
  have nq171 : r0 ≠ b103_2 := (ne_exa (Fc113.keep P167_0) Fc170 (by decide))
  have nq172 : r0 ≠ i1 := (ne_exa (Fc113.keep P167_0) (Fc129.keep P167_0) (by decide))
  have Fc173 := (Fc117.keep P167_0 (ninS nq114 (ninS nq171 (ninS nq172 nin0))))
  obtain ⟨T174, X174, e174, st174⟩ := getF X167 hx hZ hown (host := "") (Or.inl (own_w hw 30 rfl)) Via.refl rfl Fc173 (g := (mkF m 17 #[oR r0, oR b103, oI 2, oI 2, oI 2, oU, oU, oU, oU, oU] [(.ref r0), (.int 2)])) rfl rfl (hb hby d6_17)
  obtain ⟨T175, X175, e175, st175⟩ := getF X174 hx hZ hown (host := "") (Or.inl (own_w hw 30 rfl)) Via.refl e174 Fc173 (g := (mkF m 102 #[oR r0, oR b103, oI 0, oI 2, oI 2, oU, oU, oU, oU, oU] [(.ref r0), (.int 0)])) rfl rfl (hb hby d6_102)
  obtain ⟨T176, X176, e176, st176⟩ := getF X175 hx hZ hown (host := "") (Or.inl (own_w hw 30 rfl)) Via.refl e175 Fc173 (g := (mkF m 118 #[oR r0, oR b103, oI 0, oI 0, oI 1, oU, oU, oU, oU, oU] [(.ref r0), (.int 1)])) rfl rfl (hb hby d6_118)
  have Fc177 := ((Ea103.keep P110_0).keep P167_0)
  have nq178 : b103 ≠ i1 := (ne_exa Fc177 (Fc129.keep P167_0) (by decide))
  have Fc179 := (Fc123.keep P167_0 (ninS nq103_0_1 (ninS nq103_0_2 (ninS nq178 nin0))))
  obtain ⟨cl180, Ar180, qk180, Sz180, Nz180, Hh180, Gg180⟩ := id Fc179
  have hin181 : ¬ ((1 : Int32) < 0 ∨ cl180.slots.size ≤ ((1 : Int32)).toNatClampNeg) := inb_of Sz180 ⟨by decide, by decide⟩
  have hat181 : cl180.slots[((1 : Int32)).toNatClampNeg]? = some (.ref b103_2) := Has.at Hh180 hin181 rfl
  obtain ⟨cl182, Ar182, qk182, Sz182, Nz182, Hh182, Gg182⟩ := id P167_3
  have hin183 : ¬ ((0 : Int32) < 0 ∨ cl182.slots.size ≤ ((0 : Int32)).toNatClampNeg) := inb_of Sz182 ⟨by decide, by decide⟩
  have hat183 : cl182.slots[((0 : Int32)).toNatClampNeg]? = some (.double 0) := Has.at Hh182 hin183 rfl
  obtain ⟨T184, X184, e184, st184⟩ := natS X176 hx hZ hown (own_w hw 75 rfl) (own_w hw 76 rfl) (own_w hw 77 rfl) (own_w hw 78 rfl) (by decide) e176 (W := 0) (fun q => Jvm.Free.Fl.Abs.absD_pays (0 : UInt64) q (by decide) (by decide)) (g := (mkF m 130 #[oR r0, oR b103, oI 0, oI 0, oI 1, oU, oU, oU, oU, oU] [(.double 0)])) rfl (by rw [hml]; rfl) (argsL := [(.double 0)]) (rest := []) (lenOf pd1 rfl) rfl (by show 2 * 0 + _ ≤ _; exact Nat.le_of_eq rfl) (hb hby d6_130) (by decide) (by decide) ⟨rfl, own_nn0⟩ rfl
  have hin185 : ¬ ((0 : Int32) < 0 ∨ cl180.slots.size ≤ ((0 : Int32)).toNatClampNeg) := inb_of Sz180 ⟨by decide, by decide⟩
  have hat185 : cl180.slots[((0 : Int32)).toNatClampNeg]? = some (.ref b103_1) := Has.at Hh180 hin185 rfl
  obtain ⟨cl186, Ar186, qk186, Sz186, Nz186, Hh186, Gg186⟩ := id P167_2
  have hin187 : ¬ ((0 : Int32) < 0 ∨ cl186.slots.size ≤ ((0 : Int32)).toNatClampNeg) := inb_of Sz186 ⟨by decide, by decide⟩
  have hat187 : cl186.slots[((0 : Int32)).toNatClampNeg]? = some (.double d0) := Has.at Hh186 hin187 rfl
  obtain ⟨T188, X188, e188, st188⟩ := natS X184 hx hZ hown (own_w hw 75 rfl) (own_w hw 76 rfl) (own_w hw 77 rfl) (own_w hw 78 rfl) (by decide) e184 (W := 2) (fun q => Jvm.Free.Fl.Abs.absD_pays d0 q (by decide) (by decide)) (g := (mkF m 138 #[oR r0, oR b103, oI 0, oI 0, oI 1, oU, oU, oU, oU, oU] [(.double d0), (.double ((0 : UInt64) &&& 0x7fffffffffffffff))])) rfl (by rw [hml]; rfl) (argsL := [(.double d0)]) (rest := [(.double ((0 : UInt64) &&& 0x7fffffffffffffff))]) (lenOf pd1 rfl) rfl (by show 2 * 0 + _ ≤ _; exact Nat.le_of_eq rfl) (hb hby d6_138) (by decide) (by decide) ⟨rfl, hn0⟩ rfl
  obtain ⟨T189, X189, e189, st189⟩ := getF X188 hx hZ hown (host := "") (Or.inl (own_w hw 30 rfl)) Via.refl e188 Fc173 (g := (mkF m 118 #[oR r0, oR b103, oI 0, oI 0, oI 2, oU, oU, oU, oU, oU] [(.ref r0), (.int 2)])) rfl rfl (hb hby d6_118)
  have hOK : own_ok g0 g1 d0 ee 0 d1 (4607182418800017408 : UInt64) 0 0 (4607182418800017408 : UInt64) i00 i01 i10 i11 := hH.2
  obtain ⟨hTA, hKA, hAB⟩ := hOK
  have Fc190 := (Fc121.keep P167_0 (ninS nq114 (ninS nq171 (ninS nq172 nin0))))
  have nq191 : ri ≠ b103_2 := (ne_exa (Fc126.keep P167_0) Fc170 (by decide))
  have nq192 : ri ≠ i1 := (ne_exa (Fc126.keep P167_0) (Fc129.keep P167_0) (by decide))
  have Fc193 := (Fc148.keep P167_0 (ninS nq146 (ninS nq191 (ninS nq192 nin0))))
  have Fc194 := ((Ej103_0.keep P110_0).keep P167_0)
  have nq195 : ri ≠ b103 := (Nat.ne_of_lt (Nat.lt_of_lt_of_le E_ri.lt gl103_0))
  obtain ⟨T196, L196, X196, N196, P196_0, P196_1, P196_2, st196⟩ := own_C0 l Z a0 hw r0 b103 ri b103_1 b103_2 i0 i1 k103 kri kc103 d0 ee T167.heap n0 ZZ168 Fc190 Fc179 Fc193 P167_2 (Fc113.keep P167_0) Fc177 (Fc126.keep P167_0) Fc194 Fc170 (Fc115.keep P167_0) (Fc129.keep P167_0) O103 O_ri g_b103 g_ri (Ne.symm nq195) hTA hx hby hml hZ hown hnm X189 e189 N167
  have ZZ197 : n0 ≤ T196.heap.size := Nat.le_trans ZZ168 P196_0.1
  have KK198 : Keep h0 T196.heap [r0, ri, i0, i1, va] := Keep.trans KK169 P196_0 (allS (Or.inr sz_b103) (allS (Or.inl (List.mem_of_getElem? (i := 1) rfl)) all0))
  have Fc199 := ((Fc113.keep P167_0).keep P196_0)
  have nq200 : r0 ≠ b103 := (ne_exa Fc199 (Fc177.keep P196_0) (by decide))
  have Fc201 := ((Fc126.keep P167_0).keep P196_0)
  have nq202 : r0 ≠ ri := (ne_exa Fc199 Fc201 (by decide))
  have Fc203 := (Fc173.keep P196_0 (ninS nq200 (ninS nq202 nin0)))
  have Fc204 := (Fc190.keep P196_0 (ninS nq200 (ninS nq202 nin0)))
  have Fc205 := (P167_2.keep P196_0 (ninS (Ne.symm nq103_0_1) (ninS (Ne.symm nq146) nin0)))
  have Fc206 := (P167_3.keep P196_0 (ninS (Ne.symm nq103_0_2) (ninS (Ne.symm nq191) nin0)))
  have Fc207 := ((P110_1.keep P167_0 (ninS nq108 (ninS nq163 (ninS ne_i0_i1 nin0)))).keep P196_0 (ninS (Ne.symm nq122) (ninS (Ne.symm nq147) nin0)))
  have Fc208 := (P167_1.keep P196_0 (ninS (Ne.symm nq178) (ninS (Ne.symm nq192) nin0)))
  have Fc209 := ((Fc115.keep P167_0).keep P196_0)
  have Fc210 := ((Fc129.keep P167_0).keep P196_0)
  obtain ⟨a1_211, b1_211, c1_211, d1_211, x01_211, x11_211, y01_211, y11_211, s9'_211, T211, L211, X211, N211, P211_0, P211_1, P211_2, P211_3, P211_4, hrA, P211_6, st211⟩ := own_E0 l Z a0 hw r0 b103 ri b103_1 b103_2 i0 i1 k103 kri kc103 ki (0 : Int32) d0 ee (0 : UInt64) d1 (4607182418800017408 : UInt64) (0 : UInt64) (0 : UInt64) (4607182418800017408 : UInt64) T196.heap n0 ZZ197 Fc203 Fc204 P196_1 P196_2 Fc205 Fc206 Fc207 Fc208 Fc199 (Fc177.keep P196_0) Fc201 (Fc194.keep P196_0) (Fc170.keep P196_0) Fc209 Fc210 g_b103_1 g_b103_2 g_i0 g_i1 nq103_1_2 ne_i0_i1 (Ne.symm nq108) (Ne.symm nq161) (Ne.symm nq163) (Ne.symm nq165) hKA hx hby hml hZ hown hnm X196 rfl N196
  have ZZ212 : n0 ≤ T211.heap.size := Nat.le_trans ZZ197 P211_0.1
  have KK213 : Keep h0 T211.heap [r0, ri, i0, i1, va] := Keep.trans KK198 P211_0 (allS (Or.inr sz_b103_1) (allS (Or.inr sz_b103_2) (allS (Or.inl (List.mem_of_getElem? (i := 2) rfl)) (allS (Or.inl (List.mem_of_getElem? (i := 3) rfl)) all0))))
  have hEB := hAB _ _ _ _ _ _ _ _ hrA
  have Fc214 := (Fc203.keep P211_0 (ninS nq114 (ninS nq171 (ninS nq116 (ninS nq172 nin0)))))
  have Fc215 := (Fc204.keep P211_0 (ninS nq114 (ninS nq171 (ninS nq116 (ninS nq172 nin0)))))
  have Fc216 := (P196_1.keep P211_0 (ninS nq103_0_1 (ninS nq103_0_2 (ninS nq122 (ninS nq178 nin0)))))
  have Fc217 := (P196_2.keep P211_0 (ninS nq146 (ninS nq191 (ninS nq147 (ninS nq192 nin0)))))
  have Fc218 := ((Fc177.keep P196_0).keep P211_0)
  have Fc219 := ((Fc194.keep P196_0).keep P211_0)
  have Fc220 := ((Fc170.keep P196_0).keep P211_0)
  obtain ⟨a1_221, b1_221, c1_221, d1_221, x01_221, x11_221, y01_221, y11_221, s9'_221, T221, L221, X221, N221, P221_0, P221_1, P221_2, P221_3, P221_4, hrB, P221_6, P221_7, P221_8, st221⟩ := own_E1 l Z a0 hw r0 b103 ri b103_1 b103_2 i0 i1 k103 kri kc103 ki (0 : Int32) a1_211 b1_211 c1_211 d1_211 x01_211 x11_211 y01_211 y11_211 d0 (0 : UInt64) (s9'_211) T211.heap n0 ZZ212 Fc214 Fc215 Fc216 Fc217 P211_1 P211_2 P211_3 P211_4 (Fc199.keep P211_0) Fc218 (Fc201.keep P211_0) Fc219 Fc220 (Fc209.keep P211_0) (Fc210.keep P211_0) g_b103_1 g_b103_2 g_i0 g_i1 nq103_1_2 ne_i0_i1 (Ne.symm nq108) (Ne.symm nq161) (Ne.symm nq163) (Ne.symm nq165) hEB.2.1 O103 O_ri g_b103 g_ri (Ne.symm nq195) hEB.1 P211_6 hx hby hml hZ hown hnm X211 rfl N211
  have ZZ222 : n0 ≤ T221.heap.size := Nat.le_trans ZZ212 P221_0.1
  have KK223 : Keep h0 T221.heap [r0, ri, i0, i1, va] := Keep.trans KK213 P221_0 (allS (Or.inr sz_b103) (allS (Or.inl (List.mem_of_getElem? (i := 1) rfl)) (allS (Or.inr sz_b103_1) (allS (Or.inr sz_b103_2) (allS (Or.inl (List.mem_of_getElem? (i := 2) rfl)) (allS (Or.inl (List.mem_of_getElem? (i := 3) rfl)) all0))))))
  obtain ⟨hE0, hE1, hE2, hE3, hW0, hW1⟩ := hEB.2.2 _ _ _ _ _ _ _ _ hrB
  have Fc224 := (Fc214.keep P221_0 (ninS nq200 (ninS nq202 (ninS nq114 (ninS nq171 (ninS nq116 (ninS nq172 nin0)))))))
  have Fc225 := (Fc215.keep P221_0 (ninS nq200 (ninS nq202 (ninS nq114 (ninS nq171 (ninS nq116 (ninS nq172 nin0)))))))
  have Fc226 := ((((((F_rhs_r0.ext E103).keep P110_0 (ninS nq114 (ninS nq116 nin0))).keep P167_0 (ninS nq114 (ninS nq171 (ninS nq172 nin0)))).keep P196_0 (ninS nq200 (ninS nq202 nin0))).keep P211_0 (ninS nq114 (ninS nq171 (ninS nq116 (ninS nq172 nin0))))).keep P221_0 (ninS nq200 (ninS nq202 (ninS nq114 (ninS nq171 (ninS nq116 (ninS nq172 nin0)))))))
  have Fc227 := ((((((F_values_r0.ext E103).keep P110_0 (ninS nq114 (ninS nq116 nin0))).keep P167_0 (ninS nq114 (ninS nq171 (ninS nq172 nin0)))).keep P196_0 (ninS nq200 (ninS nq202 nin0))).keep P211_0 (ninS nq114 (ninS nq171 (ninS nq116 (ninS nq172 nin0))))).keep P221_0 (ninS nq200 (ninS nq202 (ninS nq114 (ninS nq171 (ninS nq116 (ninS nq172 nin0)))))))
  have Fc228 := (E_rh.keep KK223)
  have Fc229 := ((Fc199.keep P211_0).keep P221_0)
  have nq230 : rh ≠ r0 := (ne_exa Fc228 Fc229 (by decide))
  have Fc231 := ((Fc201.keep P211_0).keep P221_0)
  have nq232 : rh ≠ ri := (ne_exa Fc228 Fc231 (by decide))
  have Fc233 := (V_rh.keep KK223 (ninS nq230 (ninS nq232 (ninS ne_rh_i0 (ninS ne_rh_i1 (ninS ne_rh_va nin0))))))
  have nq234 : va ≠ b103_1 := (Nat.ne_of_lt (Nat.lt_of_lt_of_le E_va.lt gl103_1))
  have nq235 : va ≠ b103_2 := (Nat.ne_of_lt (Nat.lt_of_lt_of_le E_va.lt gl103_2))
  have Fc236 := ((((Fc131.keep P167_0).keep P196_0).keep P211_0).keep P221_0)
  have nq237 : va ≠ b103 := (ne_exa Fc236 (Fc218.keep P221_0) (by decide))
  have nq238 : va ≠ ri := (ne_exa Fc236 Fc231 (by decide))
  have Fc239 := ((((((V_va.ext E103).keep P110_0 (ninS nq234 (ninS ne_va_i0 nin0))).keep P167_0 (ninS nq234 (ninS nq235 (ninS ne_va_i1 nin0)))).keep P196_0 (ninS nq237 (ninS nq238 nin0))).keep P211_0 (ninS nq234 (ninS nq235 (ninS ne_va_i0 (ninS ne_va_i1 nin0))))).keep P221_0 (ninS nq237 (ninS nq238 (ninS nq234 (ninS nq235 (ninS ne_va_i0 (ninS ne_va_i1 nin0)))))))
  obtain ⟨T240, L240, X240, N240, P240_0, P240_1, st240⟩ := own_SV l Z a0 hw r0 b103 ri i0 i1 rh va kri ki krh kva g0 g1 x01_221 x11_221 y01_221 y11_221 (0 : UInt64) (0 : UInt64) d1_211 (FP.ddiv d1_211 d1_211) (s9'_221) T221.heap n0 ZZ222 Fc224 Fc225 Fc226 Fc227 P221_8 P221_3 P221_4 Fc233 Fc239 Fc229 Fc231 Fc236 g_va ne_va_i0 ne_va_i1 ne_rh_va hW0 hW1 P221_6 hx hby hml hZ hown hnm X221 rfl N221
  have ZZ241 : n0 ≤ T240.heap.size := Nat.le_trans ZZ222 P240_0.1
  have KK242 : Keep h0 T240.heap [r0, ri, i0, i1, va] := Keep.trans KK223 P240_0 (allS (Or.inl (List.mem_of_getElem? (i := 4) rfl)) all0)
  have nq243 : r0 ≠ va := (ne_exa (Fc229.keep P240_0) (Fc236.keep P240_0) (by decide))
  have Fc244 := (((((((F_pivotsSinceRefresh_r0.ext E103).keep P110_0 (ninS nq114 (ninS nq116 nin0))).keep P167_0 (ninS nq114 (ninS nq171 (ninS nq172 nin0)))).keep P196_0 (ninS nq200 (ninS nq202 nin0))).keep P211_0 (ninS nq114 (ninS nq171 (ninS nq116 (ninS nq172 nin0))))).keep P221_0 (ninS nq200 (ninS nq202 (ninS nq114 (ninS nq171 (ninS nq116 (ninS nq172 nin0))))))).keep P240_0 (ninS nq243 nin0))
  obtain ⟨T245, h245, X245, e245, W245, st245⟩ := putF X240 hx hZ hown (host := "") (Or.inl (own_w hw 83 rfl)) Via.refl rfl Fc244 (Fc229.keep P240_0) (Or.inl (own_w hw 84 rfl)) (own_w hw 6 rfl) (ty := .int) (by decide) rfl rfl (g := (mkF m 408 #[oR r0, oR b103, oI 2, oD (own_v g0 g1 y01_221 y11_221), oV, oI 2, oI 2, oD (FP.ddiv d1_211 d1_211), oV, s9'_221] [(.int 0), (.ref r0)])) rfl rfl (hb hby d6_408)
  have Fw245 := Fc244.same W245
  have N245 := Fr.snoc X245 N240 g_r0
  have ZZ246 : n0 ≤ h245.size := Nat.le_trans ZZ241 (Nat.le_of_eq W245.size.symm)
  have KK247 : Keep h0 h245 [r0, ri, i0, i1, va] := KK242.wr W245 (Or.inl (List.mem_of_getElem? (i := 0) rfl))
  obtain ⟨fs, hr, hrun, hended, hW, hsame⟩ := X245.leave (v := some (.int 1)) (fun h => by rw [Bd.returns] at h; cases h)
  refine ⟨_, _, pre0 _ ?_, hrun, hended, _, _, rfl, ?_, ⟨_, rfl⟩, hW, hsame.mono (by decide) (by decide)⟩
  · show own_S p e below s₁ m 0 #[oR r0, oU, oU, oU, oU, oU, oU, oU, oU, oU] [] _
    refine XS.aloadN X0.here hx rfl (hb hby d6_0) rfl rfl ?_
    show own_S p e below s₁ m 1 _ [(.ref r0)] _
    refine st101 _ ?_
    show own_S p e below T101 m 4 _ [(.int 2)] _
    refine XS.aloadN X101.here hx rfl (hb hby d6_4) rfl rfl ?_
    show own_S p e below T101 m 5 _ [(.ref r0), (.int 2)] _
    refine st102 _ ?_
    show own_S p e below T102 m 8 _ [(.int 2), (.int 2)] _
    refine st103 _ ?_
    show own_S p e below T103 m 12 _ [(.ref b103)] _
    refine XS.astoreN X103.here hx rfl (hb hby d6_12) rfl rfl (l' := #[oR r0, oR b103, oU, oU, oU, oU, oU, oU, oU, oU]) rfl ?_
    refine XS.iconst X103.here hx rfl (hb hby d6_13) ?_
    refine XS.istoreN X103.here hx rfl (hb hby d6_14) rfl (l' := #[oR r0, oR b103, oI 0, oU, oU, oU, oU, oU, oU, oU]) rfl ?_
    show own_S p e below T103 m 15 #[oR r0, oR b103, oI 0, oU, oU, oU, oU, oU, oU, oU] [] _
    refine st110 _ ?_
    show own_S p e below T110 m 15 #[oR r0, oR b103, oI 1, oI 1, oI 1, oU, oU, oU, oU, oU] [] _
    refine st167 _ ?_
    show own_S p e below T167 m 15 #[oR r0, oR b103, oI 2, oI 2, oI 2, oU, oU, oU, oU, oU] [] _
    refine XS.iloadN X167.here hx rfl (hb hby d6_15) rfl ?_
    refine XS.aloadN X167.here hx rfl (hb hby d6_16) rfl rfl ?_
    show own_S p e below T167 m 17 _ [(.ref r0), (.int 2)] _
    refine st174 _ ?_
    show own_S p e below T174 m 20 _ [(.int 2), (.int 2)] _
    refine XS.icmpYes X174.here hx rfl (pc0 := 20) (pc' := 98) rfl (hb hby d6_20) rfl (flt (by decide : ¬ ((2 : Int32) < (2 : Int32)))).2.1 (by decide) (by decide) ?_
    refine XS.iconst X174.here hx rfl (hb hby d6_98) ?_
    refine XS.istoreN X174.here hx rfl (hb hby d6_99) rfl (l' := #[oR r0, oR b103, oI 0, oI 2, oI 2, oU, oU, oU, oU, oU]) rfl ?_
    refine XS.iloadN X174.here hx rfl (hb hby d6_100) rfl ?_
    show own_S p e below T174 m 101 _ [(.int 0)] _
    refine XS.aloadN X174.here hx rfl (hb hby d6_101) rfl rfl ?_
    show own_S p e below T174 m 102 _ [(.ref r0), (.int 0)] _
    refine st175 _ ?_
    show own_S p e below T175 m 105 _ [(.int 2), (.int 0)] _
    refine XS.icmpNo X175.here hx rfl (hb hby d6_105) rfl (tlt (by decide : (0 : Int32) < (2 : Int32))).2.1 ?_
    refine XS.iloadN X175.here hx rfl (hb hby d6_108) rfl ?_
    refine XS.istoreN X175.here hx rfl (hb hby d6_109) rfl (l' := #[oR r0, oR b103, oI 0, oI 0, oI 2, oU, oU, oU, oU, oU]) rfl ?_
    refine XS.iloadN X175.here hx rfl (hb hby d6_110) rfl ?_
    show own_S p e below T175 m 111 _ [(.int 0)] _
    refine XS.iconst X175.here hx rfl (hb hby d6_111) ?_
    show own_S p e below T175 m 112 _ [(.int 1), (.int 0)] _
    refine XS.iadd X175.here hx rfl (hb hby d6_112) rfl ?_
    show own_S p e below T175 m 113 _ [(.int ((0 : Int32) + (1 : Int32)))] _
    refine reI (by decide : ((0 : Int32) + (1 : Int32)) = (1 : Int32)) ?_
    show own_S p e below T175 m 113 _ [(.int 1)] _
    refine XS.istore X175.here hx rfl (hb hby d6_113) rfl (l' := #[oR r0, oR b103, oI 0, oI 0, oI 1, oU, oU, oU, oU, oU]) rfl ?_
    refine XS.iload X175.here hx rfl (hb hby d6_115) rfl ?_
    refine XS.aloadN X175.here hx rfl (hb hby d6_117) rfl rfl ?_
    show own_S p e below T175 m 118 _ [(.ref r0), (.int 1)] _
    refine st176 _ ?_
    show own_S p e below T176 m 121 _ [(.int 2), (.int 1)] _
    refine XS.icmpNo X176.here hx rfl (hb hby d6_121) rfl (tlt (by decide : (1 : Int32) < (2 : Int32))).2.1 ?_
    refine XS.aloadN X176.here hx rfl (hb hby d6_124) rfl rfl ?_
    refine XS.iload X176.here hx rfl (hb hby d6_125) rfl ?_
    show own_S p e below T176 m 127 _ [(.int 1), (.ref b103)] _
    refine X176.aaload hx (j := (1 : Int32)) (v := (.ref b103_2)) (by rw [e176]; exact Ar180.1) (State.isArrayOf_alike hZ.alike Ar180.2.1) rfl Ar180.2.2 hin181 hat181 (g := (mkF m 127 #[oR r0, oR b103, oI 0, oI 0, oI 1, oU, oU, oU, oU, oU] [(.int 1), (.ref b103)])) rfl rfl (hb hby d6_127) _ ?_
    show own_S p e below T176 m 128 #[oR r0, oR b103, oI 0, oI 0, oI 1, oU, oU, oU, oU, oU] [(.ref b103_2)] _
    refine XS.iloadN X176.here hx rfl (hb hby d6_128) rfl ?_
    show own_S p e below T176 m 129 _ [(.int 0), (.ref b103_2)] _
    refine X176.daload hx (j := (0 : Int32)) (v := (.double 0)) (by rw [e176]; exact Ar182.1) (State.isArrayOf_alike hZ.alike Ar182.2.1) Ar182.2.2 hin183 hat183 (g := (mkF m 129 #[oR r0, oR b103, oI 0, oI 0, oI 1, oU, oU, oU, oU, oU] [(.int 0), (.ref b103_2)])) rfl rfl (hb hby d6_129) _ ?_
    show own_S p e below T176 m 130 _ [(.double 0)] _
    refine st184 _ ?_
    show own_S p e below T184 m 133 _ [(.double ((0 : UInt64) &&& 0x7fffffffffffffff))] _
    refine XS.aloadN X184.here hx rfl (hb hby d6_133) rfl rfl ?_
    refine XS.iloadN X184.here hx rfl (hb hby d6_134) rfl ?_
    show own_S p e below T184 m 135 _ [(.int 0), (.ref b103), (.double ((0 : UInt64) &&& 0x7fffffffffffffff))] _
    refine X184.aaload hx (j := (0 : Int32)) (v := (.ref b103_1)) (by rw [e184]; exact Ar180.1) (State.isArrayOf_alike hZ.alike Ar180.2.1) rfl Ar180.2.2 hin185 hat185 (g := (mkF m 135 #[oR r0, oR b103, oI 0, oI 0, oI 1, oU, oU, oU, oU, oU] [(.int 0), (.ref b103), (.double ((0 : UInt64) &&& 0x7fffffffffffffff))])) rfl rfl (hb hby d6_135) _ ?_
    show own_S p e below T184 m 136 _ [(.ref b103_1), (.double ((0 : UInt64) &&& 0x7fffffffffffffff))] _
    refine XS.iloadN X184.here hx rfl (hb hby d6_136) rfl ?_
    show own_S p e below T184 m 137 #[oR r0, oR b103, oI 0, oI 0, oI 1, oU, oU, oU, oU, oU] [(.int 0), (.ref b103_1), (.double ((0 : UInt64) &&& 0x7fffffffffffffff))] _
    refine X184.daload hx (j := (0 : Int32)) (v := (.double d0)) (by rw [e184]; exact Ar186.1) (State.isArrayOf_alike hZ.alike Ar186.2.1) Ar186.2.2 hin187 hat187 (g := (mkF m 137 #[oR r0, oR b103, oI 0, oI 0, oI 1, oU, oU, oU, oU, oU] [(.int 0), (.ref b103_1), (.double ((0 : UInt64) &&& 0x7fffffffffffffff))])) rfl rfl (hb hby d6_137) _ ?_
    show own_S p e below T184 m 138 _ [(.double d0), (.double ((0 : UInt64) &&& 0x7fffffffffffffff))] _
    refine st188 _ ?_
    show own_S p e below T188 m 141 _ [(.double (d0 &&& 0x7fffffffffffffff)), (.double ((0 : UInt64) &&& 0x7fffffffffffffff))] _
    refine XS.dcmpS X188.here hx rfl (v := (cmpValue (FP.dcmp ((0 : UInt64) &&& 0x7fffffffffffffff) (d0 &&& 0x7fffffffffffffff)) .l)) (hb hby d6_141) rfl rfl ?_
    show own_S p e below T188 m 142 _ [(.int (cmpValue (FP.dcmp ((0 : UInt64) &&& 0x7fffffffffffffff) (d0 &&& 0x7fffffffffffffff)) .l))] _
    refine XS.ifYes X188.here hx rfl (pc0 := 142) (pc' := 148) rfl (hb hby d6_142) rfl ((if0 _ _).trans (flt (hH.1 : ¬ ((0 : Int32) < (cmpValue (FP.dcmp ((0 : UInt64) &&& 0x7fffffffffffffff) (d0 &&& 0x7fffffffffffffff)) .l)))).2.2.2) (by decide) (by decide) ?_
    refine XS.iinc X188.here hx rfl (hb hby d6_148) rfl (l' := #[oR r0, oR b103, oI 0, oI 0, oI 2, oU, oU, oU, oU, oU]) rfl ?_
    refine XS.goto X188.here hx rfl (pc0 := 151) (pc' := 115) rfl (hb hby d6_151) (by decide) (by decide) ?_
    refine XS.iload X188.here hx rfl (hb hby d6_115) rfl ?_
    show own_S p e below T188 m 117 _ [(.int 2)] _
    refine XS.aloadN X188.here hx rfl (hb hby d6_117) rfl rfl ?_
    show own_S p e below T188 m 118 _ [(.ref r0), (.int 2)] _
    refine st189 _ ?_
    show own_S p e below T189 m 121 _ [(.int 2), (.int 2)] _
    refine XS.icmpYes X189.here hx rfl (pc0 := 121) (pc' := 154) rfl (hb hby d6_121) rfl (flt (by decide : ¬ ((2 : Int32) < (2 : Int32)))).2.1 (by decide) (by decide) ?_
    show own_S p e below T189 m 154 _ [] _
    refine st196 _ ?_
    show own_S p e below T196 m 186 _ [] _
    refine st211 _ ?_
    show own_S p e below T211 m 100 #[oR r0, oR b103, oI 1, oI 0, oD d0, oV, oI 2, oD 0, oV, s9'_211] [] _
    refine st221 _ ?_
    show own_S p e below T221 m 343 #[oR r0, oR b103, oI 2, oI 1, oD d1_211, oV, oI 2, oD (FP.ddiv d1_211 d1_211), oV, s9'_221] [] _
    refine st240 _ ?_
    show own_S p e below T240 m 406 #[oR r0, oR b103, oI 2, oD (own_v g0 g1 y01_221 y11_221), oV, oI 2, oI 2, oD (FP.ddiv d1_211 d1_211), oV, s9'_221] [] _
    refine XS.aloadN X240.here hx rfl (hb hby d6_406) rfl rfl ?_
    refine XS.iconst X240.here hx rfl (hb hby d6_407) ?_
    show own_S p e below T240 m 408 _ [(.int 0), (.ref r0)] _
    refine st245 _ ?_
    show own_S p e below T245 m 411 _ [] _
    refine XS.iconst X245.here hx rfl (hb hby d6_411) ?_
    show own_S p e below T245 m 412 _ [(.int 1)] _
    exact retN X245 hx (t := .boolean) Bd.returns (by simp) (hb hby d6_412) hr
  · show Q6_00 Z r0 co fr er ev pl rh ba ri va i0 i1 e1 e2 f1 f2 ker kev krh kba kri ki kva ke1 ke2 kf1 kf2 wE wF wC d0 d1 ee g0 g1 i00 i01 i10 i11 h0 n0 _ T245.heap _
    rw [e245]
    exact ⟨i0, i1, rfl, N245, KK247, ((((((((F_costs_r0.ext E103).keep P110_0 (ninS nq114 (ninS nq116 nin0))).keep P167_0 (ninS nq114 (ninS nq171 (ninS nq172 nin0)))).keep P196_0 (ninS nq200 (ninS nq202 nin0))).keep P211_0 (ninS nq114 (ninS nq171 (ninS nq116 (ninS nq172 nin0))))).keep P221_0 (ninS nq200 (ninS nq202 (ninS nq114 (ninS nq171 (ninS nq116 (ninS nq172 nin0))))))).keep P240_0 (ninS nq243 nin0)).other W245 (Or.inr (Ne.symm (sn55 hw)))), ((((((((F_free_r0.ext E103).keep P110_0 (ninS nq114 (ninS nq116 nin0))).keep P167_0 (ninS nq114 (ninS nq171 (ninS nq172 nin0)))).keep P196_0 (ninS nq200 (ninS nq202 nin0))).keep P211_0 (ninS nq114 (ninS nq171 (ninS nq116 (ninS nq172 nin0))))).keep P221_0 (ninS nq200 (ninS nq202 (ninS nq114 (ninS nq171 (ninS nq116 (ninS nq172 nin0))))))).keep P240_0 (ninS nq243 nin0)).other W245 (Or.inr (Ne.symm (sn56 hw)))), ((((((Fc119.keep P167_0 (ninS nq114 (ninS nq171 (ninS nq172 nin0)))).keep P196_0 (ninS nq200 (ninS nq202 nin0))).keep P211_0 (ninS nq114 (ninS nq171 (ninS nq116 (ninS nq172 nin0))))).keep P221_0 (ninS nq200 (ninS nq202 (ninS nq114 (ninS nq171 (ninS nq116 (ninS nq172 nin0))))))).keep P240_0 (ninS nq243 nin0)).other W245 (Or.inr (Ne.symm (sn57 hw)))), ((((((Fc120.keep P167_0 (ninS nq114 (ninS nq171 (ninS nq172 nin0)))).keep P196_0 (ninS nq200 (ninS nq202 nin0))).keep P211_0 (ninS nq114 (ninS nq171 (ninS nq116 (ninS nq172 nin0))))).keep P221_0 (ninS nq200 (ninS nq202 (ninS nq114 (ninS nq171 (ninS nq116 (ninS nq172 nin0))))))).keep P240_0 (ninS nq243 nin0)).other W245 (Or.inr (Ne.symm (sn58 hw)))), ((((((((F_place_r0.ext E103).keep P110_0 (ninS nq114 (ninS nq116 nin0))).keep P167_0 (ninS nq114 (ninS nq171 (ninS nq172 nin0)))).keep P196_0 (ninS nq200 (ninS nq202 nin0))).keep P211_0 (ninS nq114 (ninS nq171 (ninS nq116 (ninS nq172 nin0))))).keep P221_0 (ninS nq200 (ninS nq202 (ninS nq114 (ninS nq171 (ninS nq116 (ninS nq172 nin0))))))).keep P240_0 (ninS nq243 nin0)).other W245 (Or.inr (Ne.symm (sn59 hw)))), ((Fc224.keep P240_0 (ninS nq243 nin0)).other W245 (Or.inr (Ne.symm (sn60 hw)))), ((Fc226.keep P240_0 (ninS nq243 nin0)).other W245 (Or.inr (Ne.symm (sn61 hw)))), ((((((Fc118.keep P167_0 (ninS nq114 (ninS nq171 (ninS nq172 nin0)))).keep P196_0 (ninS nq200 (ninS nq202 nin0))).keep P211_0 (ninS nq114 (ninS nq171 (ninS nq116 (ninS nq172 nin0))))).keep P221_0 (ninS nq200 (ninS nq202 (ninS nq114 (ninS nq171 (ninS nq116 (ninS nq172 nin0))))))).keep P240_0 (ninS nq243 nin0)).other W245 (Or.inr (Ne.symm (sn62 hw)))), ((Fc225.keep P240_0 (ninS nq243 nin0)).other W245 (Or.inr (Ne.symm (sn63 hw)))), ((Fc227.keep P240_0 (ninS nq243 nin0)).other W245 (Or.inr (Ne.symm (sn64 hw)))), ((((((((F_columns_r0.ext E103).keep P110_0 (ninS nq114 (ninS nq116 nin0))).keep P167_0 (ninS nq114 (ninS nq171 (ninS nq172 nin0)))).keep P196_0 (ninS nq200 (ninS nq202 nin0))).keep P211_0 (ninS nq114 (ninS nq171 (ninS nq116 (ninS nq172 nin0))))).keep P221_0 (ninS nq200 (ninS nq202 (ninS nq114 (ninS nq171 (ninS nq116 (ninS nq172 nin0))))))).keep P240_0 (ninS nq243 nin0)).other W245 (Or.inr (Ne.symm (sn65 hw)))), ((Fc229.keep P240_0).wr W245), ((P221_8.keep P240_0 (ninS (Ne.symm nq238) nin0)).other W245 (Ne.symm nq202)), (by rw [hE0, hE1]; exact ((P221_3.keep P240_0 (ninS (Ne.symm ne_va_i0) nin0)).other W245 (Ne.symm nq116))), (by rw [hE2, hE3]; exact ((P221_4.keep P240_0 (ninS (Ne.symm ne_va_i1) nin0)).other W245 (Ne.symm nq172))), (by have q := (P240_1.other W245 (Ne.symm nq243)); rw [hW0.2.2.2.2, hW1.2.2.2.2] at q; exact q), ((((Fc209.keep P211_0).keep P221_0).keep P240_0).wr W245), ((((Fc210.keep P211_0).keep P221_0).keep P240_0).wr W245)⟩
theorem d6_145 : decode k6 145 = .ok (.iload 4, 2) := by decide +kernel
theorem d6_147 : decode k6 147 = .ok (.istore_n 3, 1) := by decide +kernel
theorem ef6_10 (m : MethodId) (r0 : Addr) : entryFrame m #[(.ref r0)] 10 = mkF m 0 #[oR r0, oU, oU, oU, oU, oU, oU, oU, oU, oU] [] := by first | (simp [entryFrame, mkF, argsToLocals, Value.category]; done) | rfl
def Q6_10 (Z : State) (r0 : Addr) (co : Addr) (fr : Addr) (er : Addr) (ev : Addr) (pl : Addr) (rh : Addr) (ba : Addr) (ri : Addr) (va : Addr) (i0 : Addr) (i1 : Addr) (e1 : Addr) (e2 : Addr) (f1 : Addr) (f2 : Addr) (ker : ClassId) (kev : ClassId) (krh : ClassId) (kba : ClassId) (kri : ClassId) (ki : ClassId) (kva : ClassId) (ke1 : ClassId) (ke2 : ClassId) (kf1 : ClassId) (kf2 : ClassId) (wE : Value) (wF : Value) (wC : Value) (d0 : UInt64) (d1 : UInt64) (ee : UInt64) (g0 : UInt64) (g1 : UInt64) (i00 : UInt64) (i01 : UInt64) (i10 : UInt64) (i11 : UInt64) (h0 : Heap) (n0 : Nat) (v : Option Value) (h : Heap) (L : List Loc) : Prop := ∃ j0 : Addr, ∃ j1 : Addr, v = some (.int 1) ∧ Fr n0 L ∧ (Keep h0 h [r0, ri, i0, i1, va]) ∧ (Fld Z h r0 own_K1 "costs" "[D" (.ref co)) ∧ (Fld Z h r0 own_K1 "free" "[Z" (.ref fr)) ∧ (Fld Z h r0 own_K1 "entryRows" "[[I" (.ref er)) ∧ (Fld Z h r0 own_K1 "entryValues" "[[D" (.ref ev)) ∧ (Fld Z h r0 own_K1 "place" "[I" (.ref pl)) ∧ (Fld Z h r0 own_K1 "rows" "I" (.int 2)) ∧ (Fld Z h r0 own_K1 "rhs" "[D" (.ref rh)) ∧ (Fld Z h r0 own_K1 "basic" "[I" (.ref ba)) ∧ (Fld Z h r0 own_K1 "inverse" "[[D" (.ref ri)) ∧ (Fld Z h r0 own_K1 "values" "[D" (.ref va)) ∧ (Fld Z h r0 own_K1 "columns" "I" wC) ∧ (Exa Z h r0 own_K1) ∧ (Arv Z h ri kri (.array .double) (2 : Int32) [(.ref j0), (.ref j1)] .null) ∧ (Arv Z h j0 ki .double (2 : Int32) [(.double i00), (.double i01)] (.double 0)) ∧ (Arv Z h j1 ki .double (2 : Int32) [(.double i10), (.double i11)] (.double 0)) ∧ (Arv Z h va kva .double (2 : Int32) [(.double 4607182418800017408), (.double 4607182418800017408)] (.double 0)) ∧ (Exa Z h j0 "[D") ∧ (Exa Z h j1 "[D")
set_option maxRecDepth 65536 in
set_option maxHeartbeats 40000000 in
theorem rm6_10 (l : Launch) (Z : State) (a0 : Array Value) (hw : own_HW Z a0) (ws : List Jvm.Cond) (r0 : Addr) (co : Addr) (fr : Addr) (er : Addr) (ev : Addr) (pl : Addr) (rh : Addr) (ba : Addr) (ri : Addr) (va : Addr) (i0 : Addr) (i1 : Addr) (e1 : Addr) (e2 : Addr) (f1 : Addr) (f2 : Addr) (ker : ClassId) (kev : ClassId) (krh : ClassId) (kba : ClassId) (kri : ClassId) (ki : ClassId) (kva : ClassId) (ke1 : ClassId) (ke2 : ClassId) (kf1 : ClassId) (kf2 : ClassId) (wE : Value) (wF : Value) (wC : Value) (d0 : UInt64) (d1 : UInt64) (ee : UInt64) (g0 : UInt64) (g1 : UInt64) (i00 : UInt64) (i01 : UInt64) (i10 : UInt64) (i11 : UInt64) (h0 : Heap) (n0 : Nat) (Z0 : n0 ≤ h0.size) (F_costs_r0 : Fld Z h0 r0 own_K1 "costs" "[D" (.ref co)) (F_free_r0 : Fld Z h0 r0 own_K1 "free" "[Z" (.ref fr)) (F_entryRows_r0 : Fld Z h0 r0 own_K1 "entryRows" "[[I" (.ref er)) (F_entryValues_r0 : Fld Z h0 r0 own_K1 "entryValues" "[[D" (.ref ev)) (F_place_r0 : Fld Z h0 r0 own_K1 "place" "[I" (.ref pl)) (F_rows_r0 : Fld Z h0 r0 own_K1 "rows" "I" (.int 2)) (F_rhs_r0 : Fld Z h0 r0 own_K1 "rhs" "[D" (.ref rh)) (F_basic_r0 : Fld Z h0 r0 own_K1 "basic" "[I" (.ref ba)) (F_inverse_r0 : Fld Z h0 r0 own_K1 "inverse" "[[D" (.ref ri)) (F_values_r0 : Fld Z h0 r0 own_K1 "values" "[D" (.ref va)) (F_columns_r0 : Fld Z h0 r0 own_K1 "columns" "I" wC) (F_pivotsSinceRefresh_r0 : Fld Z h0 r0 own_K1 "pivotsSinceRefresh" "I" (.int 0)) (V_er : Arv Z h0 er ker (.array .int) (16 : Int32) [wE, (.ref e1), (.ref e2)] .null) (V_ev : Arv Z h0 ev kev (.array .double) (16 : Int32) [wF, (.ref f1), (.ref f2)] .null) (V_rh : Arv Z h0 rh krh .double (2 : Int32) [(.double g0), (.double g1)] (.double 0)) (V_ba : Arv Z h0 ba kba .int (2 : Int32) [(.int 1), (.int 2)] (.int 0)) (V_ri : Arv Z h0 ri kri (.array .double) (2 : Int32) [(.ref i0), (.ref i1)] .null) (V_i0 : Arv Z h0 i0 ki .double (2 : Int32) [(.double 0), (.double 0)] (.double 0)) (V_i1 : Arv Z h0 i1 ki .double (2 : Int32) [(.double 0), (.double 0)] (.double 0)) (V_va : Arv Z h0 va kva .double (2 : Int32) [(.double 0), (.double 0)] (.double 0)) (V_e1 : Arv Z h0 e1 ke1 .int (1 : Int32) [(.int 1)] (.int 0)) (V_e2 : Arv Z h0 e2 ke2 .int (2 : Int32) [(.int 1), (.int 0)] (.int 0)) (V_f1 : Arv Z h0 f1 kf1 .double (1 : Int32) [(.double d0)] (.double 0)) (V_f2 : Arv Z h0 f2 kf2 .double (2 : Int32) [(.double ee), (.double d1)] (.double 0)) (E_r0 : Exa Z h0 r0 own_K1) (E_er : Exa Z h0 er "[[I") (E_ev : Exa Z h0 ev "[[D") (E_rh : Exa Z h0 rh "[D") (E_ba : Exa Z h0 ba "[I") (E_ri : Exa Z h0 ri "[[D") (E_i0 : Exa Z h0 i0 "[D") (E_i1 : Exa Z h0 i1 "[D") (E_va : Exa Z h0 va "[D") (E_e1 : Exa Z h0 e1 "[I") (E_e2 : Exa Z h0 e2 "[I") (E_f1 : Exa Z h0 f1 "[D") (E_f2 : Exa Z h0 f2 "[D") (O_ri : OvrA Z kri .double "[D") (g_r0 : n0 ≤ r0) (g_ri : n0 ≤ ri) (g_i0 : n0 ≤ i0) (g_i1 : n0 ≤ i1) (g_va : n0 ≤ va) (ne_i0_i1 : i0 ≠ i1) (ne_f1_i0 : f1 ≠ i0) (ne_f1_i1 : f1 ≠ i1) (ne_f2_i0 : f2 ≠ i0) (ne_f2_i1 : f2 ≠ i1) (ne_va_i0 : va ≠ i0) (ne_va_i1 : va ≠ i1) (ne_rh_i0 : rh ≠ i0) (ne_rh_i1 : rh ≠ i1) (ne_rh_va : rh ≠ va) (hn0 : NoNaN64 d0) (hn1 : NoNaN64 d1) (hne : NoNaN64 ee) (hH : (0 : Int32) < own_pv d0 0 ∧ own_ok g0 g1 d0 ee 0 d1 0 (4607182418800017408 : UInt64) (4607182418800017408 : UInt64) 0 i00 i01 i10 i11) :
    MetFree l (⟨own_K1, "refresh", "()Z"⟩ : MethodName) (head1 (Jvm.Cond.code (⟨own_K1, "refresh", "()Z"⟩ : MethodName) prog_41_method_12_code 10 (some .boolean) :: ws) ({ frames := 1, cells := 3, slots := 6, locals := 40 } : Room)) (fun a U => a = #[(.ref r0)] ∧ Z.Warmed39 U.vm ∧ U.heap = h0) (fun _ _ _ _ _ => True) (fun _ U o U' => ∃ v L, o = .returned v ∧ Q6_10 Z r0 co fr er ev pl rh ba ri va i0 i1 e1 e2 f1 f2 ker kev krh kba kri ki kva ke1 ke2 kf1 kf2 wE wF wC d0 d1 ee g0 g1 i00 i01 i10 i11 h0 n0 v U'.heap L ∧ FrameEnd U o U' L ({ frames := 1, cells := 3, slots := 6, locals := 40 } : Room).cells ({ frames := 1, cells := 3, slots := 6, locals := 40 } : Room).slots) := by
  refine MetFree.of_bodySF (plainFor_of_name pn1) hisR ?_
  intro p e s m args below meth c s₁ Bd hml0 hP hK
  obtain ⟨rfl, hZ, hh⟩ := hP
  have hx := Bd.exec
  have hby := Bd.bytes
  have hml : c.maxLocals = 10 := hml0
  have hown : s.vm.findClass own_K1 = some m.cls := findClass_of_methodNamed Bd.named
  have hnm := (name_of_methodNamed Bd.named Bd.method).1
  have X0 : Stand p l e ({ frames := 1, cells := 3, slots := 6, locals := 40 } : Room) s m #[(.ref r0)] below meth c s₁ [] 0 0 := Stand.of_body Bd
  have e0 : s₁.heap = h0 := by rw [← hh, Bd.state]; rfl
  have N0 := Fr.nil n0
  have pre0 : ∀ t, Steps p.tables e below (s₁.setTop (mkF m 0 #[oR r0, oU, oU, oU, oU, oU, oU, oU, oU, oU] [])) t → Steps p.tables e below (s₁.setTop (entryFrame m #[(.ref r0)] 10)) t := fun t k => castTop (ef6_10 m r0) k
  obtain ⟨T101, X101, e101, st101⟩ := getF X0 hx hZ hown (host := "") (Or.inl (own_w hw 30 rfl)) Via.refl e0 F_rows_r0 (g := (mkF m 1 #[oR r0, oU, oU, oU, oU, oU, oU, oU, oU, oU] [(.ref r0)])) rfl rfl (hb hby d6_1)
  obtain ⟨T102, X102, e102, st102⟩ := getF X101 hx hZ hown (host := "") (Or.inl (own_w hw 30 rfl)) Via.refl e101 F_rows_r0 (g := (mkF m 5 #[oR r0, oU, oU, oU, oU, oU, oU, oU, oU, oU] [(.ref r0), (.int 2)])) rfl rfl (hb hby d6_5)
  obtain ⟨T103, h103, k103, kc103, X103, e103, E103, A103, O103, Ea103, Ai103, st103⟩ := gridM (xs := (List.range 2).map fun j => h0.size + 1 + j) X102 hx hZ hown (C := "[D") (by decide) (ad := "[[D") (by decide) (own_w hw 44 rfl) (own_w hw 24 rfl) (own_w hw 4 rfl) e102 (g := (mkF m 8 #[oR r0, oU, oU, oU, oU, oU, oU, oU, oU, oU] [(.int 2), (.int 2)])) rfl (hb hby d6_8) rfl (by decide) (by decide) (N := 2) (by decide) rfl (cap := 2) (by decide) (by decide) (by decide) rfl rfl (by decide) (by decide)
  obtain ⟨Aj103_0, Ej103_0⟩ : Arr Z h103 (h0.size + 1 + 0) (newA kc103 .double (2 : Int32)) .double ∧ Exa Z h103 (h0.size + 1 + 0) "[D" := Ai103 0 _ rfl
  obtain ⟨Aj103_1, Ej103_1⟩ : Arr Z h103 (h0.size + 1 + 1) (newA kc103 .double (2 : Int32)) .double ∧ Exa Z h103 (h0.size + 1 + 1) "[D" := Ai103 1 _ rfl
  replace A103 : Arv Z h103 h0.size k103 (.array .double) (2 : Int32) [.ref (h0.size + 1 + 0), .ref (h0.size + 1 + 1)] .null := A103
  obtain ⟨b103_2, gj103_1⟩ : ∃ z, z = h0.size + 1 + 1 := ⟨_, rfl⟩
  rw [← gj103_1] at A103 Aj103_1 Ej103_1
  obtain ⟨b103_1, gj103_0⟩ : ∃ z, z = h0.size + 1 + 0 := ⟨_, rfl⟩
  rw [← gj103_0] at A103 Aj103_0 Ej103_0
  obtain ⟨b103, g103⟩ : ∃ z, z = h0.size := ⟨_, rfl⟩
  rw [← g103] at A103 Ea103 st103
  have gl103_0 : h0.size ≤ b103 := by omega
  have g_b103 : n0 ≤ b103 := Nat.le_trans Z0 gl103_0
  have sz_b103 : h0.size ≤ b103 := Nat.le_trans (Keep.refl h0 [r0, ri, i0, i1, va]).1 gl103_0
  have gl103_1 : h0.size ≤ b103_1 := by omega
  have g_b103_1 : n0 ≤ b103_1 := Nat.le_trans Z0 gl103_1
  have sz_b103_1 : h0.size ≤ b103_1 := Nat.le_trans (Keep.refl h0 [r0, ri, i0, i1, va]).1 gl103_1
  have nq103_0_1 : b103 ≠ b103_1 := by omega
  have gl103_2 : h0.size ≤ b103_2 := by omega
  have g_b103_2 : n0 ≤ b103_2 := Nat.le_trans Z0 gl103_2
  have sz_b103_2 : h0.size ≤ b103_2 := Nat.le_trans (Keep.refl h0 [r0, ri, i0, i1, va]).1 gl103_2
  have nq103_0_2 : b103 ≠ b103_2 := by omega
  have nq103_1_2 : b103_1 ≠ b103_2 := by omega
  have ZZ104 : n0 ≤ h103.size := Nat.le_trans Z0 E103.1
  have KK105 : Keep h0 h103 [r0, ri, i0, i1, va] := (Keep.refl h0 [r0, ri, i0, i1, va]).ext E103
  have V_b103_1 : Arv Z h103 b103_1 kc103 .double (2 : Int32) [(.double 0), (.double 0)] (.double 0) := (Arv.new Aj103_0 (by decide)).pad (pad_rep [] (.double 0) 2)
  have V_b103_2 : Arv Z h103 b103_2 kc103 .double (2 : Int32) [(.double 0), (.double 0)] (.double 0) := (Arv.new Aj103_1 (by decide)).pad (pad_rep [] (.double 0) 2)
  have Fc106 := (F_entryRows_r0.ext E103)
  have Fc107 := (F_entryValues_r0.ext E103)
  have nq108 : i0 ≠ b103_2 := (Nat.ne_of_lt (Nat.lt_of_lt_of_le E_i0.lt gl103_2))
  have nq109 : f1 ≠ b103_2 := (Nat.ne_of_lt (Nat.lt_of_lt_of_le E_f1.lt gl103_2))
  obtain ⟨T110, L110, X110, N110, P110_0, P110_1, P110_2, st110⟩ := own_X01 l Z a0 hw r0 b103 b103_1 b103_2 ri i0 i1 er ev ba e1 e2 f1 f2 b103_2 k103 kc103 kri ki ker kev kba ke1 kf1 wE wF (.int 2) (1 : Int32) d0 (0 : UInt64) (0 : UInt64) (0 : UInt64) (0 : UInt64) h103 n0 ZZ104 (F_rows_r0.ext E103) (F_basic_r0.ext E103) Fc106 Fc107 (F_inverse_r0.ext E103) A103 (V_er.ext E103) (V_ev.ext E103) (V_ba.ext E103) (V_ri.ext E103) (V_e1.ext E103) (V_f1.ext E103) (V_i0.ext E103) V_b103_2 (E_r0.ext E103) Ea103 (E_er.ext E103) (E_ev.ext E103) (E_ba.ext E103) (E_ri.ext E103) (E_e1.ext E103) (E_f1.ext E103) (E_i0.ext E103) Ej103_1 g_b103_2 g_i0 nq108 nq109 (⟨by decide, by decide⟩) rfl hx hby hml hZ hown hnm X103 e103 N0
  have ZZ111 : n0 ≤ T110.heap.size := Nat.le_trans ZZ104 P110_0.1
  have KK112 : Keep h0 T110.heap [r0, ri, i0, i1, va] := Keep.trans KK105 P110_0 (allS (Or.inr sz_b103_2) (allS (Or.inl (List.mem_of_getElem? (i := 2) rfl)) all0))
  have Fc113 := ((E_r0.ext E103).keep P110_0)
  have nq114 : r0 ≠ b103_2 := (ne_exa Fc113 (Ej103_1.keep P110_0) (by decide))
  have Fc115 := ((E_i0.ext E103).keep P110_0)
  have nq116 : r0 ≠ i0 := (ne_exa Fc113 Fc115 (by decide))
  have Fc117 := ((F_rows_r0.ext E103).keep P110_0 (ninS nq114 (ninS nq116 nin0)))
  have Fc118 := ((F_basic_r0.ext E103).keep P110_0 (ninS nq114 (ninS nq116 nin0)))
  have Fc119 := (Fc106.keep P110_0 (ninS nq114 (ninS nq116 nin0)))
  have Fc120 := (Fc107.keep P110_0 (ninS nq114 (ninS nq116 nin0)))
  have Fc121 := ((F_inverse_r0.ext E103).keep P110_0 (ninS nq114 (ninS nq116 nin0)))
  have nq122 : b103 ≠ i0 := (ne_exa (Ea103.keep P110_0) Fc115 (by decide))
  have Fc123 := (A103.keep P110_0 (ninS nq103_0_2 (ninS nq122 nin0)))
  have Fc124 := (E_er.keep KK112)
  have nq125 : er ≠ r0 := (ne_exa Fc124 Fc113 (by decide))
  have Fc126 := ((E_ri.ext E103).keep P110_0)
  have nq127 : er ≠ ri := (ne_exa Fc124 Fc126 (by decide))
  have nq128 : er ≠ i0 := (ne_exa Fc124 Fc115 (by decide))
  have Fc129 := ((E_i1.ext E103).keep P110_0)
  have nq130 : er ≠ i1 := (ne_exa Fc124 Fc129 (by decide))
  have Fc131 := ((E_va.ext E103).keep P110_0)
  have nq132 : er ≠ va := (ne_exa Fc124 Fc131 (by decide))
  have Fc133 := (V_er.keep KK112 (ninS nq125 (ninS nq127 (ninS nq128 (ninS nq130 (ninS nq132 nin0))))))
  have Fc134 := (E_ev.keep KK112)
  have nq135 : ev ≠ r0 := (ne_exa Fc134 Fc113 (by decide))
  have nq136 : ev ≠ b103_2 := (ne_exa Fc134 (Ej103_1.keep P110_0) (by decide))
  have nq137 : ev ≠ i0 := (ne_exa Fc134 Fc115 (by decide))
  have Fc138 := ((V_ev.ext E103).keep P110_0 (ninS nq136 (ninS nq137 nin0)))
  have Fc139 := (E_ba.keep KK112)
  have nq140 : ba ≠ r0 := (ne_exa Fc139 Fc113 (by decide))
  have nq141 : ba ≠ ri := (ne_exa Fc139 Fc126 (by decide))
  have nq142 : ba ≠ i0 := (ne_exa Fc139 Fc115 (by decide))
  have nq143 : ba ≠ i1 := (ne_exa Fc139 Fc129 (by decide))
  have nq144 : ba ≠ va := (ne_exa Fc139 Fc131 (by decide))
  have Fc145 := (V_ba.keep KK112 (ninS nq140 (ninS nq141 (ninS nq142 (ninS nq143 (ninS nq144 nin0))))))
  have nq146 : ri ≠ b103_2 := (ne_exa Fc126 (Ej103_1.keep P110_0) (by decide))
  have nq147 : ri ≠ i0 := (ne_exa Fc126 Fc115 (by decide))
  have Fc148 := ((V_ri.ext E103).keep P110_0 (ninS nq146 (ninS nq147 nin0)))
  have Fc149 := (E_e2.keep KK112)
  have nq150 : e2 ≠ r0 := (ne_exa Fc149 Fc113 (by decide))
  have nq151 : e2 ≠ ri := (ne_exa Fc149 Fc126 (by decide))
  have nq152 : e2 ≠ i0 := (ne_exa Fc149 Fc115 (by decide))
  have nq153 : e2 ≠ i1 := (ne_exa Fc149 Fc129 (by decide))
  have nq154 : e2 ≠ va := (ne_exa Fc149 Fc131 (by decide))
  have Fc155 := (V_e2.keep KK112 (ninS nq150 (ninS nq151 (ninS nq152 (ninS nq153 (ninS nq154 nin0))))))
  have Fc156 := (E_f2.keep KK112)
  have nq157 : f2 ≠ r0 := (ne_exa Fc156 Fc113 (by decide))
  have nq158 : f2 ≠ ri := (ne_exa Fc156 Fc126 (by decide))
  have nq159 : f2 ≠ b103_2 := (Nat.ne_of_lt (Nat.lt_of_lt_of_le E_f2.lt gl103_2))
  have Fc160 := ((V_f2.ext E103).keep P110_0 (ninS nq159 (ninS ne_f2_i0 nin0)))
  have nq161 : i1 ≠ b103_2 := (Nat.ne_of_lt (Nat.lt_of_lt_of_le E_i1.lt gl103_2))
  have Fc162 := ((V_i1.ext E103).keep P110_0 (ninS nq161 (ninS (Ne.symm ne_i0_i1) nin0)))
  have nq163 : i0 ≠ b103_1 := (Nat.ne_of_lt (Nat.lt_of_lt_of_le E_i0.lt gl103_1))
  have Fc164 := (V_b103_1.keep P110_0 (ninS nq103_1_2 (ninS (Ne.symm nq163) nin0)))
  have nq165 : i1 ≠ b103_1 := (Nat.ne_of_lt (Nat.lt_of_lt_of_le E_i1.lt gl103_1))
  have nq166 : f2 ≠ b103_1 := (Nat.ne_of_lt (Nat.lt_of_lt_of_le E_f2.lt gl103_1))
  obtain ⟨T167, L167, X167, N167, P167_0, P167_1, P167_2, P167_3, st167⟩ := own_X12 l Z a0 hw r0 b103 b103_1 b103_2 ri i0 i1 er ev ba e1 e2 f1 f2 b103_2 b103_1 k103 kc103 kri ki ker kev kba ke2 kf2 wE wF (.int 1) (1 : Int32) (0 : Int32) (1 : Int32) (1 : Int32) ee d1 d0 (0 : UInt64) (0 : UInt64) (0 : UInt64) (0 : UInt64) (0 : UInt64) T110.heap n0 ZZ111 Fc117 Fc118 Fc119 Fc120 Fc121 Fc123 Fc133 Fc138 Fc145 Fc148 Fc155 Fc160 Fc162 P110_2 Fc164 Fc113 (Ea103.keep P110_0) Fc124 Fc134 Fc139 Fc126 Fc149 Fc156 Fc129 (Ej103_1.keep P110_0) (Ej103_0.keep P110_0) g_b103_2 g_b103_1 g_i1 nq161 nq165 nq159 nq166 (Ne.symm nq103_1_2) (⟨by decide, by decide⟩) rfl (⟨by decide, by decide⟩) rfl hx hby hml hZ hown hnm X110 rfl N110
  have ZZ168 : n0 ≤ T167.heap.size := Nat.le_trans ZZ111 P167_0.1
  have KK169 : Keep h0 T167.heap [r0, ri, i0, i1, va] := Keep.trans KK112 P167_0 (allS (Or.inr sz_b103_2) (allS (Or.inr sz_b103_1) (allS (Or.inl (List.mem_of_getElem? (i := 3) rfl)) all0)))
  have Fc170 := ((Ej103_0.keep P110_0).keep P167_0)
  have nq171 : r0 ≠ b103_1 := (ne_exa (Fc113.keep P167_0) Fc170 (by decide))
  have nq172 : r0 ≠ i1 := (ne_exa (Fc113.keep P167_0) (Fc129.keep P167_0) (by decide))
  have Fc173 := (Fc117.keep P167_0 (ninS nq114 (ninS nq171 (ninS nq172 nin0))))
  obtain ⟨T174, X174, e174, st174⟩ := getF X167 hx hZ hown (host := "") (Or.inl (own_w hw 30 rfl)) Via.refl rfl Fc173 (g := (mkF m 17 #[oR r0, oR b103, oI 2, oI 2, oI 2, oU, oU, oU, oU, oU] [(.ref r0), (.int 2)])) rfl rfl (hb hby d6_17)
  obtain ⟨T175, X175, e175, st175⟩ := getF X174 hx hZ hown (host := "") (Or.inl (own_w hw 30 rfl)) Via.refl e174 Fc173 (g := (mkF m 102 #[oR r0, oR b103, oI 0, oI 2, oI 2, oU, oU, oU, oU, oU] [(.ref r0), (.int 0)])) rfl rfl (hb hby d6_102)
  obtain ⟨T176, X176, e176, st176⟩ := getF X175 hx hZ hown (host := "") (Or.inl (own_w hw 30 rfl)) Via.refl e175 Fc173 (g := (mkF m 118 #[oR r0, oR b103, oI 0, oI 0, oI 1, oU, oU, oU, oU, oU] [(.ref r0), (.int 1)])) rfl rfl (hb hby d6_118)
  have Fc177 := ((Ea103.keep P110_0).keep P167_0)
  have nq178 : b103 ≠ i1 := (ne_exa Fc177 (Fc129.keep P167_0) (by decide))
  have Fc179 := (Fc123.keep P167_0 (ninS nq103_0_2 (ninS nq103_0_1 (ninS nq178 nin0))))
  obtain ⟨cl180, Ar180, qk180, Sz180, Nz180, Hh180, Gg180⟩ := id Fc179
  have hin181 : ¬ ((1 : Int32) < 0 ∨ cl180.slots.size ≤ ((1 : Int32)).toNatClampNeg) := inb_of Sz180 ⟨by decide, by decide⟩
  have hat181 : cl180.slots[((1 : Int32)).toNatClampNeg]? = some (.ref b103_2) := Has.at Hh180 hin181 rfl
  obtain ⟨cl182, Ar182, qk182, Sz182, Nz182, Hh182, Gg182⟩ := id P167_2
  have hin183 : ¬ ((0 : Int32) < 0 ∨ cl182.slots.size ≤ ((0 : Int32)).toNatClampNeg) := inb_of Sz182 ⟨by decide, by decide⟩
  have hat183 : cl182.slots[((0 : Int32)).toNatClampNeg]? = some (.double d0) := Has.at Hh182 hin183 rfl
  obtain ⟨T184, X184, e184, st184⟩ := natS X176 hx hZ hown (own_w hw 75 rfl) (own_w hw 76 rfl) (own_w hw 77 rfl) (own_w hw 78 rfl) (by decide) e176 (W := 0) (fun q => Jvm.Free.Fl.Abs.absD_pays d0 q (by decide) (by decide)) (g := (mkF m 130 #[oR r0, oR b103, oI 0, oI 0, oI 1, oU, oU, oU, oU, oU] [(.double d0)])) rfl (by rw [hml]; rfl) (argsL := [(.double d0)]) (rest := []) (lenOf pd1 rfl) rfl (by show 2 * 0 + _ ≤ _; exact Nat.le_of_eq rfl) (hb hby d6_130) (by decide) (by decide) ⟨rfl, hn0⟩ rfl
  have hin185 : ¬ ((0 : Int32) < 0 ∨ cl180.slots.size ≤ ((0 : Int32)).toNatClampNeg) := inb_of Sz180 ⟨by decide, by decide⟩
  have hat185 : cl180.slots[((0 : Int32)).toNatClampNeg]? = some (.ref b103_1) := Has.at Hh180 hin185 rfl
  obtain ⟨cl186, Ar186, qk186, Sz186, Nz186, Hh186, Gg186⟩ := id P167_3
  have hin187 : ¬ ((0 : Int32) < 0 ∨ cl186.slots.size ≤ ((0 : Int32)).toNatClampNeg) := inb_of Sz186 ⟨by decide, by decide⟩
  have hat187 : cl186.slots[((0 : Int32)).toNatClampNeg]? = some (.double 0) := Has.at Hh186 hin187 rfl
  obtain ⟨T188, X188, e188, st188⟩ := natS X184 hx hZ hown (own_w hw 75 rfl) (own_w hw 76 rfl) (own_w hw 77 rfl) (own_w hw 78 rfl) (by decide) e184 (W := 2) (fun q => Jvm.Free.Fl.Abs.absD_pays (0 : UInt64) q (by decide) (by decide)) (g := (mkF m 138 #[oR r0, oR b103, oI 0, oI 0, oI 1, oU, oU, oU, oU, oU] [(.double 0), (.double (d0 &&& 0x7fffffffffffffff))])) rfl (by rw [hml]; rfl) (argsL := [(.double 0)]) (rest := [(.double (d0 &&& 0x7fffffffffffffff))]) (lenOf pd1 rfl) rfl (by show 2 * 0 + _ ≤ _; exact Nat.le_of_eq rfl) (hb hby d6_138) (by decide) (by decide) ⟨rfl, own_nn0⟩ rfl
  obtain ⟨T189, X189, e189, st189⟩ := getF X188 hx hZ hown (host := "") (Or.inl (own_w hw 30 rfl)) Via.refl e188 Fc173 (g := (mkF m 118 #[oR r0, oR b103, oI 0, oI 1, oI 2, oU, oU, oU, oU, oU] [(.ref r0), (.int 2)])) rfl rfl (hb hby d6_118)
  have hOK : own_ok g0 g1 d0 ee 0 d1 0 (4607182418800017408 : UInt64) (4607182418800017408 : UInt64) 0 i00 i01 i10 i11 := hH.2
  obtain ⟨hTA, hKA, hAB⟩ := hOK
  have Fc190 := (Fc121.keep P167_0 (ninS nq114 (ninS nq171 (ninS nq172 nin0))))
  have nq191 : ri ≠ b103_1 := (ne_exa (Fc126.keep P167_0) Fc170 (by decide))
  have nq192 : ri ≠ i1 := (ne_exa (Fc126.keep P167_0) (Fc129.keep P167_0) (by decide))
  have Fc193 := (Fc148.keep P167_0 (ninS nq146 (ninS nq191 (ninS nq192 nin0))))
  have Fc194 := ((Ej103_1.keep P110_0).keep P167_0)
  have nq195 : ri ≠ b103 := (Nat.ne_of_lt (Nat.lt_of_lt_of_le E_ri.lt gl103_0))
  obtain ⟨T196, L196, X196, N196, P196_0, P196_1, P196_2, st196⟩ := own_C1 l Z a0 hw r0 b103 ri b103_1 b103_2 i0 i1 k103 kri kc103 d0 ee T167.heap n0 ZZ168 Fc190 Fc179 Fc193 P167_2 (Fc113.keep P167_0) Fc177 (Fc126.keep P167_0) Fc170 Fc194 (Fc115.keep P167_0) (Fc129.keep P167_0) O103 O_ri g_b103 g_ri (Ne.symm nq195) hTA hx hby hml hZ hown hnm X189 e189 N167
  have ZZ197 : n0 ≤ T196.heap.size := Nat.le_trans ZZ168 P196_0.1
  have KK198 : Keep h0 T196.heap [r0, ri, i0, i1, va] := Keep.trans KK169 P196_0 (allS (Or.inr sz_b103) (allS (Or.inl (List.mem_of_getElem? (i := 1) rfl)) all0))
  have Fc199 := ((Fc113.keep P167_0).keep P196_0)
  have nq200 : r0 ≠ b103 := (ne_exa Fc199 (Fc177.keep P196_0) (by decide))
  have Fc201 := ((Fc126.keep P167_0).keep P196_0)
  have nq202 : r0 ≠ ri := (ne_exa Fc199 Fc201 (by decide))
  have Fc203 := (Fc173.keep P196_0 (ninS nq200 (ninS nq202 nin0)))
  have Fc204 := (Fc190.keep P196_0 (ninS nq200 (ninS nq202 nin0)))
  have Fc205 := (P167_2.keep P196_0 (ninS (Ne.symm nq103_0_2) (ninS (Ne.symm nq146) nin0)))
  have Fc206 := (P167_3.keep P196_0 (ninS (Ne.symm nq103_0_1) (ninS (Ne.symm nq191) nin0)))
  have Fc207 := (P167_1.keep P196_0 (ninS (Ne.symm nq178) (ninS (Ne.symm nq192) nin0)))
  have Fc208 := ((P110_1.keep P167_0 (ninS nq108 (ninS nq163 (ninS ne_i0_i1 nin0)))).keep P196_0 (ninS (Ne.symm nq122) (ninS (Ne.symm nq147) nin0)))
  have Fc209 := ((Fc129.keep P167_0).keep P196_0)
  have Fc210 := ((Fc115.keep P167_0).keep P196_0)
  obtain ⟨a1_211, b1_211, c1_211, d1_211, x01_211, x11_211, y01_211, y11_211, s9'_211, T211, L211, X211, N211, P211_0, P211_1, P211_2, P211_3, P211_4, hrA, P211_6, st211⟩ := own_E0 l Z a0 hw r0 b103 ri b103_2 b103_1 i1 i0 k103 kri kc103 ki (1 : Int32) d0 ee (0 : UInt64) d1 (0 : UInt64) (4607182418800017408 : UInt64) (4607182418800017408 : UInt64) (0 : UInt64) T196.heap n0 ZZ197 Fc203 Fc204 P196_1 P196_2 Fc205 Fc206 Fc207 Fc208 Fc199 (Fc177.keep P196_0) Fc201 (Fc194.keep P196_0) (Fc170.keep P196_0) Fc209 Fc210 g_b103_2 g_b103_1 g_i1 g_i0 (Ne.symm nq103_1_2) (Ne.symm ne_i0_i1) (Ne.symm nq161) (Ne.symm nq108) (Ne.symm nq165) (Ne.symm nq163) hKA hx hby hml hZ hown hnm X196 rfl N196
  have ZZ212 : n0 ≤ T211.heap.size := Nat.le_trans ZZ197 P211_0.1
  have KK213 : Keep h0 T211.heap [r0, ri, i0, i1, va] := Keep.trans KK198 P211_0 (allS (Or.inr sz_b103_2) (allS (Or.inr sz_b103_1) (allS (Or.inl (List.mem_of_getElem? (i := 3) rfl)) (allS (Or.inl (List.mem_of_getElem? (i := 2) rfl)) all0))))
  have hEB := hAB _ _ _ _ _ _ _ _ hrA
  have Fc214 := (Fc203.keep P211_0 (ninS nq114 (ninS nq171 (ninS nq172 (ninS nq116 nin0)))))
  have Fc215 := (Fc204.keep P211_0 (ninS nq114 (ninS nq171 (ninS nq172 (ninS nq116 nin0)))))
  have Fc216 := (P196_1.keep P211_0 (ninS nq103_0_2 (ninS nq103_0_1 (ninS nq178 (ninS nq122 nin0)))))
  have Fc217 := (P196_2.keep P211_0 (ninS nq146 (ninS nq191 (ninS nq192 (ninS nq147 nin0)))))
  have Fc218 := ((Fc177.keep P196_0).keep P211_0)
  have Fc219 := ((Fc194.keep P196_0).keep P211_0)
  have Fc220 := ((Fc170.keep P196_0).keep P211_0)
  obtain ⟨a1_221, b1_221, c1_221, d1_221, x01_221, x11_221, y01_221, y11_221, s9'_221, T221, L221, X221, N221, P221_0, P221_1, P221_2, P221_3, P221_4, hrB, P221_6, P221_7, P221_8, st221⟩ := own_E1 l Z a0 hw r0 b103 ri b103_2 b103_1 i1 i0 k103 kri kc103 ki (1 : Int32) a1_211 b1_211 c1_211 d1_211 x01_211 x11_211 y01_211 y11_211 d0 (0 : UInt64) (s9'_211) T211.heap n0 ZZ212 Fc214 Fc215 Fc216 Fc217 P211_1 P211_2 P211_3 P211_4 (Fc199.keep P211_0) Fc218 (Fc201.keep P211_0) Fc219 Fc220 (Fc209.keep P211_0) (Fc210.keep P211_0) g_b103_2 g_b103_1 g_i1 g_i0 (Ne.symm nq103_1_2) (Ne.symm ne_i0_i1) (Ne.symm nq161) (Ne.symm nq108) (Ne.symm nq165) (Ne.symm nq163) hEB.2.1 O103 O_ri g_b103 g_ri (Ne.symm nq195) hEB.1 P211_6 hx hby hml hZ hown hnm X211 rfl N211
  have ZZ222 : n0 ≤ T221.heap.size := Nat.le_trans ZZ212 P221_0.1
  have KK223 : Keep h0 T221.heap [r0, ri, i0, i1, va] := Keep.trans KK213 P221_0 (allS (Or.inr sz_b103) (allS (Or.inl (List.mem_of_getElem? (i := 1) rfl)) (allS (Or.inr sz_b103_2) (allS (Or.inr sz_b103_1) (allS (Or.inl (List.mem_of_getElem? (i := 3) rfl)) (allS (Or.inl (List.mem_of_getElem? (i := 2) rfl)) all0))))))
  obtain ⟨hE0, hE1, hE2, hE3, hW0, hW1⟩ := hEB.2.2 _ _ _ _ _ _ _ _ hrB
  have Fc224 := (Fc214.keep P221_0 (ninS nq200 (ninS nq202 (ninS nq114 (ninS nq171 (ninS nq172 (ninS nq116 nin0)))))))
  have Fc225 := (Fc215.keep P221_0 (ninS nq200 (ninS nq202 (ninS nq114 (ninS nq171 (ninS nq172 (ninS nq116 nin0)))))))
  have Fc226 := ((((((F_rhs_r0.ext E103).keep P110_0 (ninS nq114 (ninS nq116 nin0))).keep P167_0 (ninS nq114 (ninS nq171 (ninS nq172 nin0)))).keep P196_0 (ninS nq200 (ninS nq202 nin0))).keep P211_0 (ninS nq114 (ninS nq171 (ninS nq172 (ninS nq116 nin0))))).keep P221_0 (ninS nq200 (ninS nq202 (ninS nq114 (ninS nq171 (ninS nq172 (ninS nq116 nin0)))))))
  have Fc227 := ((((((F_values_r0.ext E103).keep P110_0 (ninS nq114 (ninS nq116 nin0))).keep P167_0 (ninS nq114 (ninS nq171 (ninS nq172 nin0)))).keep P196_0 (ninS nq200 (ninS nq202 nin0))).keep P211_0 (ninS nq114 (ninS nq171 (ninS nq172 (ninS nq116 nin0))))).keep P221_0 (ninS nq200 (ninS nq202 (ninS nq114 (ninS nq171 (ninS nq172 (ninS nq116 nin0)))))))
  have Fc228 := (E_rh.keep KK223)
  have Fc229 := ((Fc199.keep P211_0).keep P221_0)
  have nq230 : rh ≠ r0 := (ne_exa Fc228 Fc229 (by decide))
  have Fc231 := ((Fc201.keep P211_0).keep P221_0)
  have nq232 : rh ≠ ri := (ne_exa Fc228 Fc231 (by decide))
  have Fc233 := (V_rh.keep KK223 (ninS nq230 (ninS nq232 (ninS ne_rh_i0 (ninS ne_rh_i1 (ninS ne_rh_va nin0))))))
  have nq234 : va ≠ b103_2 := (Nat.ne_of_lt (Nat.lt_of_lt_of_le E_va.lt gl103_2))
  have nq235 : va ≠ b103_1 := (Nat.ne_of_lt (Nat.lt_of_lt_of_le E_va.lt gl103_1))
  have Fc236 := ((((Fc131.keep P167_0).keep P196_0).keep P211_0).keep P221_0)
  have nq237 : va ≠ b103 := (ne_exa Fc236 (Fc218.keep P221_0) (by decide))
  have nq238 : va ≠ ri := (ne_exa Fc236 Fc231 (by decide))
  have Fc239 := ((((((V_va.ext E103).keep P110_0 (ninS nq234 (ninS ne_va_i0 nin0))).keep P167_0 (ninS nq234 (ninS nq235 (ninS ne_va_i1 nin0)))).keep P196_0 (ninS nq237 (ninS nq238 nin0))).keep P211_0 (ninS nq234 (ninS nq235 (ninS ne_va_i1 (ninS ne_va_i0 nin0))))).keep P221_0 (ninS nq237 (ninS nq238 (ninS nq234 (ninS nq235 (ninS ne_va_i1 (ninS ne_va_i0 nin0)))))))
  obtain ⟨T240, L240, X240, N240, P240_0, P240_1, st240⟩ := own_SV l Z a0 hw r0 b103 ri i1 i0 rh va kri ki krh kva g0 g1 x01_221 x11_221 y01_221 y11_221 (0 : UInt64) (0 : UInt64) d1_211 (FP.ddiv d1_211 d1_211) (s9'_221) T221.heap n0 ZZ222 Fc224 Fc225 Fc226 Fc227 P221_8 P221_3 P221_4 Fc233 Fc239 Fc229 Fc231 Fc236 g_va ne_va_i1 ne_va_i0 ne_rh_va hW0 hW1 P221_6 hx hby hml hZ hown hnm X221 rfl N221
  have ZZ241 : n0 ≤ T240.heap.size := Nat.le_trans ZZ222 P240_0.1
  have KK242 : Keep h0 T240.heap [r0, ri, i0, i1, va] := Keep.trans KK223 P240_0 (allS (Or.inl (List.mem_of_getElem? (i := 4) rfl)) all0)
  have nq243 : r0 ≠ va := (ne_exa (Fc229.keep P240_0) (Fc236.keep P240_0) (by decide))
  have Fc244 := (((((((F_pivotsSinceRefresh_r0.ext E103).keep P110_0 (ninS nq114 (ninS nq116 nin0))).keep P167_0 (ninS nq114 (ninS nq171 (ninS nq172 nin0)))).keep P196_0 (ninS nq200 (ninS nq202 nin0))).keep P211_0 (ninS nq114 (ninS nq171 (ninS nq172 (ninS nq116 nin0))))).keep P221_0 (ninS nq200 (ninS nq202 (ninS nq114 (ninS nq171 (ninS nq172 (ninS nq116 nin0))))))).keep P240_0 (ninS nq243 nin0))
  obtain ⟨T245, h245, X245, e245, W245, st245⟩ := putF X240 hx hZ hown (host := "") (Or.inl (own_w hw 83 rfl)) Via.refl rfl Fc244 (Fc229.keep P240_0) (Or.inl (own_w hw 84 rfl)) (own_w hw 6 rfl) (ty := .int) (by decide) rfl rfl (g := (mkF m 408 #[oR r0, oR b103, oI 2, oD (own_v g0 g1 y01_221 y11_221), oV, oI 2, oI 2, oD (FP.ddiv d1_211 d1_211), oV, s9'_221] [(.int 0), (.ref r0)])) rfl rfl (hb hby d6_408)
  have Fw245 := Fc244.same W245
  have N245 := Fr.snoc X245 N240 g_r0
  have ZZ246 : n0 ≤ h245.size := Nat.le_trans ZZ241 (Nat.le_of_eq W245.size.symm)
  have KK247 : Keep h0 h245 [r0, ri, i0, i1, va] := KK242.wr W245 (Or.inl (List.mem_of_getElem? (i := 0) rfl))
  obtain ⟨fs, hr, hrun, hended, hW, hsame⟩ := X245.leave (v := some (.int 1)) (fun h => by rw [Bd.returns] at h; cases h)
  refine ⟨_, _, pre0 _ ?_, hrun, hended, _, _, rfl, ?_, ⟨_, rfl⟩, hW, hsame.mono (by decide) (by decide)⟩
  · show own_S p e below s₁ m 0 #[oR r0, oU, oU, oU, oU, oU, oU, oU, oU, oU] [] _
    refine XS.aloadN X0.here hx rfl (hb hby d6_0) rfl rfl ?_
    show own_S p e below s₁ m 1 _ [(.ref r0)] _
    refine st101 _ ?_
    show own_S p e below T101 m 4 _ [(.int 2)] _
    refine XS.aloadN X101.here hx rfl (hb hby d6_4) rfl rfl ?_
    show own_S p e below T101 m 5 _ [(.ref r0), (.int 2)] _
    refine st102 _ ?_
    show own_S p e below T102 m 8 _ [(.int 2), (.int 2)] _
    refine st103 _ ?_
    show own_S p e below T103 m 12 _ [(.ref b103)] _
    refine XS.astoreN X103.here hx rfl (hb hby d6_12) rfl rfl (l' := #[oR r0, oR b103, oU, oU, oU, oU, oU, oU, oU, oU]) rfl ?_
    refine XS.iconst X103.here hx rfl (hb hby d6_13) ?_
    refine XS.istoreN X103.here hx rfl (hb hby d6_14) rfl (l' := #[oR r0, oR b103, oI 0, oU, oU, oU, oU, oU, oU, oU]) rfl ?_
    show own_S p e below T103 m 15 #[oR r0, oR b103, oI 0, oU, oU, oU, oU, oU, oU, oU] [] _
    refine st110 _ ?_
    show own_S p e below T110 m 15 #[oR r0, oR b103, oI 1, oI 1, oI 1, oU, oU, oU, oU, oU] [] _
    refine st167 _ ?_
    show own_S p e below T167 m 15 #[oR r0, oR b103, oI 2, oI 2, oI 2, oU, oU, oU, oU, oU] [] _
    refine XS.iloadN X167.here hx rfl (hb hby d6_15) rfl ?_
    refine XS.aloadN X167.here hx rfl (hb hby d6_16) rfl rfl ?_
    show own_S p e below T167 m 17 _ [(.ref r0), (.int 2)] _
    refine st174 _ ?_
    show own_S p e below T174 m 20 _ [(.int 2), (.int 2)] _
    refine XS.icmpYes X174.here hx rfl (pc0 := 20) (pc' := 98) rfl (hb hby d6_20) rfl (flt (by decide : ¬ ((2 : Int32) < (2 : Int32)))).2.1 (by decide) (by decide) ?_
    refine XS.iconst X174.here hx rfl (hb hby d6_98) ?_
    refine XS.istoreN X174.here hx rfl (hb hby d6_99) rfl (l' := #[oR r0, oR b103, oI 0, oI 2, oI 2, oU, oU, oU, oU, oU]) rfl ?_
    refine XS.iloadN X174.here hx rfl (hb hby d6_100) rfl ?_
    show own_S p e below T174 m 101 _ [(.int 0)] _
    refine XS.aloadN X174.here hx rfl (hb hby d6_101) rfl rfl ?_
    show own_S p e below T174 m 102 _ [(.ref r0), (.int 0)] _
    refine st175 _ ?_
    show own_S p e below T175 m 105 _ [(.int 2), (.int 0)] _
    refine XS.icmpNo X175.here hx rfl (hb hby d6_105) rfl (tlt (by decide : (0 : Int32) < (2 : Int32))).2.1 ?_
    refine XS.iloadN X175.here hx rfl (hb hby d6_108) rfl ?_
    refine XS.istoreN X175.here hx rfl (hb hby d6_109) rfl (l' := #[oR r0, oR b103, oI 0, oI 0, oI 2, oU, oU, oU, oU, oU]) rfl ?_
    refine XS.iloadN X175.here hx rfl (hb hby d6_110) rfl ?_
    show own_S p e below T175 m 111 _ [(.int 0)] _
    refine XS.iconst X175.here hx rfl (hb hby d6_111) ?_
    show own_S p e below T175 m 112 _ [(.int 1), (.int 0)] _
    refine XS.iadd X175.here hx rfl (hb hby d6_112) rfl ?_
    show own_S p e below T175 m 113 _ [(.int ((0 : Int32) + (1 : Int32)))] _
    refine reI (by decide : ((0 : Int32) + (1 : Int32)) = (1 : Int32)) ?_
    show own_S p e below T175 m 113 _ [(.int 1)] _
    refine XS.istore X175.here hx rfl (hb hby d6_113) rfl (l' := #[oR r0, oR b103, oI 0, oI 0, oI 1, oU, oU, oU, oU, oU]) rfl ?_
    refine XS.iload X175.here hx rfl (hb hby d6_115) rfl ?_
    refine XS.aloadN X175.here hx rfl (hb hby d6_117) rfl rfl ?_
    show own_S p e below T175 m 118 _ [(.ref r0), (.int 1)] _
    refine st176 _ ?_
    show own_S p e below T176 m 121 _ [(.int 2), (.int 1)] _
    refine XS.icmpNo X176.here hx rfl (hb hby d6_121) rfl (tlt (by decide : (1 : Int32) < (2 : Int32))).2.1 ?_
    refine XS.aloadN X176.here hx rfl (hb hby d6_124) rfl rfl ?_
    refine XS.iload X176.here hx rfl (hb hby d6_125) rfl ?_
    show own_S p e below T176 m 127 _ [(.int 1), (.ref b103)] _
    refine X176.aaload hx (j := (1 : Int32)) (v := (.ref b103_2)) (by rw [e176]; exact Ar180.1) (State.isArrayOf_alike hZ.alike Ar180.2.1) rfl Ar180.2.2 hin181 hat181 (g := (mkF m 127 #[oR r0, oR b103, oI 0, oI 0, oI 1, oU, oU, oU, oU, oU] [(.int 1), (.ref b103)])) rfl rfl (hb hby d6_127) _ ?_
    show own_S p e below T176 m 128 #[oR r0, oR b103, oI 0, oI 0, oI 1, oU, oU, oU, oU, oU] [(.ref b103_2)] _
    refine XS.iloadN X176.here hx rfl (hb hby d6_128) rfl ?_
    show own_S p e below T176 m 129 _ [(.int 0), (.ref b103_2)] _
    refine X176.daload hx (j := (0 : Int32)) (v := (.double d0)) (by rw [e176]; exact Ar182.1) (State.isArrayOf_alike hZ.alike Ar182.2.1) Ar182.2.2 hin183 hat183 (g := (mkF m 129 #[oR r0, oR b103, oI 0, oI 0, oI 1, oU, oU, oU, oU, oU] [(.int 0), (.ref b103_2)])) rfl rfl (hb hby d6_129) _ ?_
    show own_S p e below T176 m 130 _ [(.double d0)] _
    refine st184 _ ?_
    show own_S p e below T184 m 133 _ [(.double (d0 &&& 0x7fffffffffffffff))] _
    refine XS.aloadN X184.here hx rfl (hb hby d6_133) rfl rfl ?_
    refine XS.iloadN X184.here hx rfl (hb hby d6_134) rfl ?_
    show own_S p e below T184 m 135 _ [(.int 0), (.ref b103), (.double (d0 &&& 0x7fffffffffffffff))] _
    refine X184.aaload hx (j := (0 : Int32)) (v := (.ref b103_1)) (by rw [e184]; exact Ar180.1) (State.isArrayOf_alike hZ.alike Ar180.2.1) rfl Ar180.2.2 hin185 hat185 (g := (mkF m 135 #[oR r0, oR b103, oI 0, oI 0, oI 1, oU, oU, oU, oU, oU] [(.int 0), (.ref b103), (.double (d0 &&& 0x7fffffffffffffff))])) rfl rfl (hb hby d6_135) _ ?_
    show own_S p e below T184 m 136 _ [(.ref b103_1), (.double (d0 &&& 0x7fffffffffffffff))] _
    refine XS.iloadN X184.here hx rfl (hb hby d6_136) rfl ?_
    show own_S p e below T184 m 137 #[oR r0, oR b103, oI 0, oI 0, oI 1, oU, oU, oU, oU, oU] [(.int 0), (.ref b103_1), (.double (d0 &&& 0x7fffffffffffffff))] _
    refine X184.daload hx (j := (0 : Int32)) (v := (.double 0)) (by rw [e184]; exact Ar186.1) (State.isArrayOf_alike hZ.alike Ar186.2.1) Ar186.2.2 hin187 hat187 (g := (mkF m 137 #[oR r0, oR b103, oI 0, oI 0, oI 1, oU, oU, oU, oU, oU] [(.int 0), (.ref b103_1), (.double (d0 &&& 0x7fffffffffffffff))])) rfl rfl (hb hby d6_137) _ ?_
    show own_S p e below T184 m 138 _ [(.double 0), (.double (d0 &&& 0x7fffffffffffffff))] _
    refine st188 _ ?_
    show own_S p e below T188 m 141 _ [(.double ((0 : UInt64) &&& 0x7fffffffffffffff)), (.double (d0 &&& 0x7fffffffffffffff))] _
    refine XS.dcmpS X188.here hx rfl (v := (cmpValue (FP.dcmp (d0 &&& 0x7fffffffffffffff) ((0 : UInt64) &&& 0x7fffffffffffffff)) .l)) (hb hby d6_141) rfl rfl ?_
    show own_S p e below T188 m 142 _ [(.int (cmpValue (FP.dcmp (d0 &&& 0x7fffffffffffffff) ((0 : UInt64) &&& 0x7fffffffffffffff)) .l))] _
    refine XS.ifNo X188.here hx rfl (hb hby d6_142) rfl ((if0 _ _).trans (tlt (hH.1 : (0 : Int32) < (cmpValue (FP.dcmp (d0 &&& 0x7fffffffffffffff) ((0 : UInt64) &&& 0x7fffffffffffffff)) .l))).2.2.2) ?_
    refine XS.iload X188.here hx rfl (hb hby d6_145) rfl ?_
    refine XS.istoreN X188.here hx rfl (hb hby d6_147) rfl (l' := #[oR r0, oR b103, oI 0, oI 1, oI 1, oU, oU, oU, oU, oU]) rfl ?_
    refine XS.iinc X188.here hx rfl (hb hby d6_148) rfl (l' := #[oR r0, oR b103, oI 0, oI 1, oI 2, oU, oU, oU, oU, oU]) rfl ?_
    show own_S p e below T188 m 151 #[oR r0, oR b103, oI 0, oI 1, oI 2, oU, oU, oU, oU, oU] [] _
    refine XS.goto X188.here hx rfl (pc0 := 151) (pc' := 115) rfl (hb hby d6_151) (by decide) (by decide) ?_
    refine XS.iload X188.here hx rfl (hb hby d6_115) rfl ?_
    refine XS.aloadN X188.here hx rfl (hb hby d6_117) rfl rfl ?_
    show own_S p e below T188 m 118 _ [(.ref r0), (.int 2)] _
    refine st189 _ ?_
    show own_S p e below T189 m 121 _ [(.int 2), (.int 2)] _
    refine XS.icmpYes X189.here hx rfl (pc0 := 121) (pc' := 154) rfl (hb hby d6_121) rfl (flt (by decide : ¬ ((2 : Int32) < (2 : Int32)))).2.1 (by decide) (by decide) ?_
    show own_S p e below T189 m 154 _ [] _
    refine st196 _ ?_
    show own_S p e below T196 m 186 _ [] _
    refine st211 _ ?_
    show own_S p e below T211 m 100 #[oR r0, oR b103, oI 1, oI 1, oD d0, oV, oI 2, oD 0, oV, s9'_211] [] _
    refine st221 _ ?_
    show own_S p e below T221 m 343 #[oR r0, oR b103, oI 2, oI 1, oD d1_211, oV, oI 2, oD (FP.ddiv d1_211 d1_211), oV, s9'_221] [] _
    refine st240 _ ?_
    show own_S p e below T240 m 406 #[oR r0, oR b103, oI 2, oD (own_v g0 g1 y01_221 y11_221), oV, oI 2, oI 2, oD (FP.ddiv d1_211 d1_211), oV, s9'_221] [] _
    refine XS.aloadN X240.here hx rfl (hb hby d6_406) rfl rfl ?_
    refine XS.iconst X240.here hx rfl (hb hby d6_407) ?_
    show own_S p e below T240 m 408 _ [(.int 0), (.ref r0)] _
    refine st245 _ ?_
    show own_S p e below T245 m 411 _ [] _
    refine XS.iconst X245.here hx rfl (hb hby d6_411) ?_
    show own_S p e below T245 m 412 _ [(.int 1)] _
    exact retN X245 hx (t := .boolean) Bd.returns (by simp) (hb hby d6_412) hr
  · show Q6_10 Z r0 co fr er ev pl rh ba ri va i0 i1 e1 e2 f1 f2 ker kev krh kba kri ki kva ke1 ke2 kf1 kf2 wE wF wC d0 d1 ee g0 g1 i00 i01 i10 i11 h0 n0 _ T245.heap _
    rw [e245]
    exact ⟨i1, i0, rfl, N245, KK247, ((((((((F_costs_r0.ext E103).keep P110_0 (ninS nq114 (ninS nq116 nin0))).keep P167_0 (ninS nq114 (ninS nq171 (ninS nq172 nin0)))).keep P196_0 (ninS nq200 (ninS nq202 nin0))).keep P211_0 (ninS nq114 (ninS nq171 (ninS nq172 (ninS nq116 nin0))))).keep P221_0 (ninS nq200 (ninS nq202 (ninS nq114 (ninS nq171 (ninS nq172 (ninS nq116 nin0))))))).keep P240_0 (ninS nq243 nin0)).other W245 (Or.inr (Ne.symm (sn55 hw)))), ((((((((F_free_r0.ext E103).keep P110_0 (ninS nq114 (ninS nq116 nin0))).keep P167_0 (ninS nq114 (ninS nq171 (ninS nq172 nin0)))).keep P196_0 (ninS nq200 (ninS nq202 nin0))).keep P211_0 (ninS nq114 (ninS nq171 (ninS nq172 (ninS nq116 nin0))))).keep P221_0 (ninS nq200 (ninS nq202 (ninS nq114 (ninS nq171 (ninS nq172 (ninS nq116 nin0))))))).keep P240_0 (ninS nq243 nin0)).other W245 (Or.inr (Ne.symm (sn56 hw)))), ((((((Fc119.keep P167_0 (ninS nq114 (ninS nq171 (ninS nq172 nin0)))).keep P196_0 (ninS nq200 (ninS nq202 nin0))).keep P211_0 (ninS nq114 (ninS nq171 (ninS nq172 (ninS nq116 nin0))))).keep P221_0 (ninS nq200 (ninS nq202 (ninS nq114 (ninS nq171 (ninS nq172 (ninS nq116 nin0))))))).keep P240_0 (ninS nq243 nin0)).other W245 (Or.inr (Ne.symm (sn57 hw)))), ((((((Fc120.keep P167_0 (ninS nq114 (ninS nq171 (ninS nq172 nin0)))).keep P196_0 (ninS nq200 (ninS nq202 nin0))).keep P211_0 (ninS nq114 (ninS nq171 (ninS nq172 (ninS nq116 nin0))))).keep P221_0 (ninS nq200 (ninS nq202 (ninS nq114 (ninS nq171 (ninS nq172 (ninS nq116 nin0))))))).keep P240_0 (ninS nq243 nin0)).other W245 (Or.inr (Ne.symm (sn58 hw)))), ((((((((F_place_r0.ext E103).keep P110_0 (ninS nq114 (ninS nq116 nin0))).keep P167_0 (ninS nq114 (ninS nq171 (ninS nq172 nin0)))).keep P196_0 (ninS nq200 (ninS nq202 nin0))).keep P211_0 (ninS nq114 (ninS nq171 (ninS nq172 (ninS nq116 nin0))))).keep P221_0 (ninS nq200 (ninS nq202 (ninS nq114 (ninS nq171 (ninS nq172 (ninS nq116 nin0))))))).keep P240_0 (ninS nq243 nin0)).other W245 (Or.inr (Ne.symm (sn59 hw)))), ((Fc224.keep P240_0 (ninS nq243 nin0)).other W245 (Or.inr (Ne.symm (sn60 hw)))), ((Fc226.keep P240_0 (ninS nq243 nin0)).other W245 (Or.inr (Ne.symm (sn61 hw)))), ((((((Fc118.keep P167_0 (ninS nq114 (ninS nq171 (ninS nq172 nin0)))).keep P196_0 (ninS nq200 (ninS nq202 nin0))).keep P211_0 (ninS nq114 (ninS nq171 (ninS nq172 (ninS nq116 nin0))))).keep P221_0 (ninS nq200 (ninS nq202 (ninS nq114 (ninS nq171 (ninS nq172 (ninS nq116 nin0))))))).keep P240_0 (ninS nq243 nin0)).other W245 (Or.inr (Ne.symm (sn62 hw)))), ((Fc225.keep P240_0 (ninS nq243 nin0)).other W245 (Or.inr (Ne.symm (sn63 hw)))), ((Fc227.keep P240_0 (ninS nq243 nin0)).other W245 (Or.inr (Ne.symm (sn64 hw)))), ((((((((F_columns_r0.ext E103).keep P110_0 (ninS nq114 (ninS nq116 nin0))).keep P167_0 (ninS nq114 (ninS nq171 (ninS nq172 nin0)))).keep P196_0 (ninS nq200 (ninS nq202 nin0))).keep P211_0 (ninS nq114 (ninS nq171 (ninS nq172 (ninS nq116 nin0))))).keep P221_0 (ninS nq200 (ninS nq202 (ninS nq114 (ninS nq171 (ninS nq172 (ninS nq116 nin0))))))).keep P240_0 (ninS nq243 nin0)).other W245 (Or.inr (Ne.symm (sn65 hw)))), ((Fc229.keep P240_0).wr W245), ((P221_8.keep P240_0 (ninS (Ne.symm nq238) nin0)).other W245 (Ne.symm nq202)), (by rw [hE0, hE1]; exact ((P221_3.keep P240_0 (ninS (Ne.symm ne_va_i1) nin0)).other W245 (Ne.symm nq172))), (by rw [hE2, hE3]; exact ((P221_4.keep P240_0 (ninS (Ne.symm ne_va_i0) nin0)).other W245 (Ne.symm nq116))), (by have q := (P240_1.other W245 (Ne.symm nq243)); rw [hW0.2.2.2.2, hW1.2.2.2.2] at q; exact q), ((((Fc209.keep P211_0).keep P221_0).keep P240_0).wr W245), ((((Fc210.keep P211_0).keep P221_0).keep P240_0).wr W245)⟩
theorem ef6_01 (m : MethodId) (r0 : Addr) : entryFrame m #[(.ref r0)] 10 = mkF m 0 #[oR r0, oU, oU, oU, oU, oU, oU, oU, oU, oU] [] := by first | (simp [entryFrame, mkF, argsToLocals, Value.category]; done) | rfl
def Q6_01 (Z : State) (r0 : Addr) (co : Addr) (fr : Addr) (er : Addr) (ev : Addr) (pl : Addr) (rh : Addr) (ba : Addr) (ri : Addr) (va : Addr) (i0 : Addr) (i1 : Addr) (e1 : Addr) (e2 : Addr) (f1 : Addr) (f2 : Addr) (ker : ClassId) (kev : ClassId) (krh : ClassId) (kba : ClassId) (kri : ClassId) (ki : ClassId) (kva : ClassId) (ke1 : ClassId) (ke2 : ClassId) (kf1 : ClassId) (kf2 : ClassId) (wE : Value) (wF : Value) (wC : Value) (d0 : UInt64) (d1 : UInt64) (ee : UInt64) (g0 : UInt64) (g1 : UInt64) (i00 : UInt64) (i01 : UInt64) (i10 : UInt64) (i11 : UInt64) (h0 : Heap) (n0 : Nat) (v : Option Value) (h : Heap) (L : List Loc) : Prop := ∃ j0 : Addr, ∃ j1 : Addr, v = some (.int 1) ∧ Fr n0 L ∧ (Keep h0 h [r0, ri, i0, i1, va]) ∧ (Fld Z h r0 own_K1 "costs" "[D" (.ref co)) ∧ (Fld Z h r0 own_K1 "free" "[Z" (.ref fr)) ∧ (Fld Z h r0 own_K1 "entryRows" "[[I" (.ref er)) ∧ (Fld Z h r0 own_K1 "entryValues" "[[D" (.ref ev)) ∧ (Fld Z h r0 own_K1 "place" "[I" (.ref pl)) ∧ (Fld Z h r0 own_K1 "rows" "I" (.int 2)) ∧ (Fld Z h r0 own_K1 "rhs" "[D" (.ref rh)) ∧ (Fld Z h r0 own_K1 "basic" "[I" (.ref ba)) ∧ (Fld Z h r0 own_K1 "inverse" "[[D" (.ref ri)) ∧ (Fld Z h r0 own_K1 "values" "[D" (.ref va)) ∧ (Fld Z h r0 own_K1 "columns" "I" wC) ∧ (Exa Z h r0 own_K1) ∧ (Arv Z h ri kri (.array .double) (2 : Int32) [(.ref j0), (.ref j1)] .null) ∧ (Arv Z h j0 ki .double (2 : Int32) [(.double i00), (.double i01)] (.double 0)) ∧ (Arv Z h j1 ki .double (2 : Int32) [(.double i10), (.double i11)] (.double 0)) ∧ (Arv Z h va kva .double (2 : Int32) [(.double 4607182418800017408), (.double 4607182418800017408)] (.double 0)) ∧ (Exa Z h j0 "[D") ∧ (Exa Z h j1 "[D")
set_option maxRecDepth 65536 in
set_option maxHeartbeats 40000000 in
theorem rm6_01 (l : Launch) (Z : State) (a0 : Array Value) (hw : own_HW Z a0) (ws : List Jvm.Cond) (r0 : Addr) (co : Addr) (fr : Addr) (er : Addr) (ev : Addr) (pl : Addr) (rh : Addr) (ba : Addr) (ri : Addr) (va : Addr) (i0 : Addr) (i1 : Addr) (e1 : Addr) (e2 : Addr) (f1 : Addr) (f2 : Addr) (ker : ClassId) (kev : ClassId) (krh : ClassId) (kba : ClassId) (kri : ClassId) (ki : ClassId) (kva : ClassId) (ke1 : ClassId) (ke2 : ClassId) (kf1 : ClassId) (kf2 : ClassId) (wE : Value) (wF : Value) (wC : Value) (d0 : UInt64) (d1 : UInt64) (ee : UInt64) (g0 : UInt64) (g1 : UInt64) (i00 : UInt64) (i01 : UInt64) (i10 : UInt64) (i11 : UInt64) (h0 : Heap) (n0 : Nat) (Z0 : n0 ≤ h0.size) (F_costs_r0 : Fld Z h0 r0 own_K1 "costs" "[D" (.ref co)) (F_free_r0 : Fld Z h0 r0 own_K1 "free" "[Z" (.ref fr)) (F_entryRows_r0 : Fld Z h0 r0 own_K1 "entryRows" "[[I" (.ref er)) (F_entryValues_r0 : Fld Z h0 r0 own_K1 "entryValues" "[[D" (.ref ev)) (F_place_r0 : Fld Z h0 r0 own_K1 "place" "[I" (.ref pl)) (F_rows_r0 : Fld Z h0 r0 own_K1 "rows" "I" (.int 2)) (F_rhs_r0 : Fld Z h0 r0 own_K1 "rhs" "[D" (.ref rh)) (F_basic_r0 : Fld Z h0 r0 own_K1 "basic" "[I" (.ref ba)) (F_inverse_r0 : Fld Z h0 r0 own_K1 "inverse" "[[D" (.ref ri)) (F_values_r0 : Fld Z h0 r0 own_K1 "values" "[D" (.ref va)) (F_columns_r0 : Fld Z h0 r0 own_K1 "columns" "I" wC) (F_pivotsSinceRefresh_r0 : Fld Z h0 r0 own_K1 "pivotsSinceRefresh" "I" (.int 0)) (V_er : Arv Z h0 er ker (.array .int) (16 : Int32) [wE, (.ref e1), (.ref e2)] .null) (V_ev : Arv Z h0 ev kev (.array .double) (16 : Int32) [wF, (.ref f1), (.ref f2)] .null) (V_rh : Arv Z h0 rh krh .double (2 : Int32) [(.double g0), (.double g1)] (.double 0)) (V_ba : Arv Z h0 ba kba .int (2 : Int32) [(.int 2), (.int 1)] (.int 0)) (V_ri : Arv Z h0 ri kri (.array .double) (2 : Int32) [(.ref i0), (.ref i1)] .null) (V_i0 : Arv Z h0 i0 ki .double (2 : Int32) [(.double 0), (.double 0)] (.double 0)) (V_i1 : Arv Z h0 i1 ki .double (2 : Int32) [(.double 0), (.double 0)] (.double 0)) (V_va : Arv Z h0 va kva .double (2 : Int32) [(.double 0), (.double 0)] (.double 0)) (V_e1 : Arv Z h0 e1 ke1 .int (1 : Int32) [(.int 0)] (.int 0)) (V_e2 : Arv Z h0 e2 ke2 .int (2 : Int32) [(.int 0), (.int 1)] (.int 0)) (V_f1 : Arv Z h0 f1 kf1 .double (1 : Int32) [(.double d0)] (.double 0)) (V_f2 : Arv Z h0 f2 kf2 .double (2 : Int32) [(.double ee), (.double d1)] (.double 0)) (E_r0 : Exa Z h0 r0 own_K1) (E_er : Exa Z h0 er "[[I") (E_ev : Exa Z h0 ev "[[D") (E_rh : Exa Z h0 rh "[D") (E_ba : Exa Z h0 ba "[I") (E_ri : Exa Z h0 ri "[[D") (E_i0 : Exa Z h0 i0 "[D") (E_i1 : Exa Z h0 i1 "[D") (E_va : Exa Z h0 va "[D") (E_e1 : Exa Z h0 e1 "[I") (E_e2 : Exa Z h0 e2 "[I") (E_f1 : Exa Z h0 f1 "[D") (E_f2 : Exa Z h0 f2 "[D") (O_ri : OvrA Z kri .double "[D") (g_r0 : n0 ≤ r0) (g_ri : n0 ≤ ri) (g_i0 : n0 ≤ i0) (g_i1 : n0 ≤ i1) (g_va : n0 ≤ va) (ne_i0_i1 : i0 ≠ i1) (ne_f1_i0 : f1 ≠ i0) (ne_f1_i1 : f1 ≠ i1) (ne_f2_i0 : f2 ≠ i0) (ne_f2_i1 : f2 ≠ i1) (ne_va_i0 : va ≠ i0) (ne_va_i1 : va ≠ i1) (ne_rh_i0 : rh ≠ i0) (ne_rh_i1 : rh ≠ i1) (ne_rh_va : rh ≠ va) (hn0 : NoNaN64 d0) (hn1 : NoNaN64 d1) (hne : NoNaN64 ee) (hH : ((0 : Int32) < own_pv d1 ee → own_ok g0 g1 d1 0 ee d0 0 (4607182418800017408 : UInt64) (4607182418800017408 : UInt64) 0 i00 i01 i10 i11) ∧ (¬ ((0 : Int32) < own_pv d1 ee) → own_ok g0 g1 ee d0 d1 0 (4607182418800017408 : UInt64) 0 0 (4607182418800017408 : UInt64) i00 i01 i10 i11)) :
    MetFree l (⟨own_K1, "refresh", "()Z"⟩ : MethodName) (head1 (Jvm.Cond.code (⟨own_K1, "refresh", "()Z"⟩ : MethodName) prog_41_method_12_code 10 (some .boolean) :: ws) ({ frames := 1, cells := 3, slots := 6, locals := 40 } : Room)) (fun a U => a = #[(.ref r0)] ∧ Z.Warmed39 U.vm ∧ U.heap = h0) (fun _ _ _ _ _ => True) (fun _ U o U' => ∃ v L, o = .returned v ∧ Q6_01 Z r0 co fr er ev pl rh ba ri va i0 i1 e1 e2 f1 f2 ker kev krh kba kri ki kva ke1 ke2 kf1 kf2 wE wF wC d0 d1 ee g0 g1 i00 i01 i10 i11 h0 n0 v U'.heap L ∧ FrameEnd U o U' L ({ frames := 1, cells := 3, slots := 6, locals := 40 } : Room).cells ({ frames := 1, cells := 3, slots := 6, locals := 40 } : Room).slots) := by
  refine MetFree.of_bodySF (plainFor_of_name pn1) hisR ?_
  intro p e s m args below meth c s₁ Bd hml0 hP hK
  obtain ⟨rfl, hZ, hh⟩ := hP
  have hx := Bd.exec
  have hby := Bd.bytes
  have hml : c.maxLocals = 10 := hml0
  have hown : s.vm.findClass own_K1 = some m.cls := findClass_of_methodNamed Bd.named
  have hnm := (name_of_methodNamed Bd.named Bd.method).1
  have X0 : Stand p l e ({ frames := 1, cells := 3, slots := 6, locals := 40 } : Room) s m #[(.ref r0)] below meth c s₁ [] 0 0 := Stand.of_body Bd
  have e0 : s₁.heap = h0 := by rw [← hh, Bd.state]; rfl
  have N0 := Fr.nil n0
  have pre0 : ∀ t, Steps p.tables e below (s₁.setTop (mkF m 0 #[oR r0, oU, oU, oU, oU, oU, oU, oU, oU, oU] [])) t → Steps p.tables e below (s₁.setTop (entryFrame m #[(.ref r0)] 10)) t := fun t k => castTop (ef6_01 m r0) k
  obtain ⟨T101, X101, e101, st101⟩ := getF X0 hx hZ hown (host := "") (Or.inl (own_w hw 30 rfl)) Via.refl e0 F_rows_r0 (g := (mkF m 1 #[oR r0, oU, oU, oU, oU, oU, oU, oU, oU, oU] [(.ref r0)])) rfl rfl (hb hby d6_1)
  obtain ⟨T102, X102, e102, st102⟩ := getF X101 hx hZ hown (host := "") (Or.inl (own_w hw 30 rfl)) Via.refl e101 F_rows_r0 (g := (mkF m 5 #[oR r0, oU, oU, oU, oU, oU, oU, oU, oU, oU] [(.ref r0), (.int 2)])) rfl rfl (hb hby d6_5)
  obtain ⟨T103, h103, k103, kc103, X103, e103, E103, A103, O103, Ea103, Ai103, st103⟩ := gridM (xs := (List.range 2).map fun j => h0.size + 1 + j) X102 hx hZ hown (C := "[D") (by decide) (ad := "[[D") (by decide) (own_w hw 44 rfl) (own_w hw 24 rfl) (own_w hw 4 rfl) e102 (g := (mkF m 8 #[oR r0, oU, oU, oU, oU, oU, oU, oU, oU, oU] [(.int 2), (.int 2)])) rfl (hb hby d6_8) rfl (by decide) (by decide) (N := 2) (by decide) rfl (cap := 2) (by decide) (by decide) (by decide) rfl rfl (by decide) (by decide)
  obtain ⟨Aj103_0, Ej103_0⟩ : Arr Z h103 (h0.size + 1 + 0) (newA kc103 .double (2 : Int32)) .double ∧ Exa Z h103 (h0.size + 1 + 0) "[D" := Ai103 0 _ rfl
  obtain ⟨Aj103_1, Ej103_1⟩ : Arr Z h103 (h0.size + 1 + 1) (newA kc103 .double (2 : Int32)) .double ∧ Exa Z h103 (h0.size + 1 + 1) "[D" := Ai103 1 _ rfl
  replace A103 : Arv Z h103 h0.size k103 (.array .double) (2 : Int32) [.ref (h0.size + 1 + 0), .ref (h0.size + 1 + 1)] .null := A103
  obtain ⟨b103_2, gj103_1⟩ : ∃ z, z = h0.size + 1 + 1 := ⟨_, rfl⟩
  rw [← gj103_1] at A103 Aj103_1 Ej103_1
  obtain ⟨b103_1, gj103_0⟩ : ∃ z, z = h0.size + 1 + 0 := ⟨_, rfl⟩
  rw [← gj103_0] at A103 Aj103_0 Ej103_0
  obtain ⟨b103, g103⟩ : ∃ z, z = h0.size := ⟨_, rfl⟩
  rw [← g103] at A103 Ea103 st103
  have gl103_0 : h0.size ≤ b103 := by omega
  have g_b103 : n0 ≤ b103 := Nat.le_trans Z0 gl103_0
  have sz_b103 : h0.size ≤ b103 := Nat.le_trans (Keep.refl h0 [r0, ri, i0, i1, va]).1 gl103_0
  have gl103_1 : h0.size ≤ b103_1 := by omega
  have g_b103_1 : n0 ≤ b103_1 := Nat.le_trans Z0 gl103_1
  have sz_b103_1 : h0.size ≤ b103_1 := Nat.le_trans (Keep.refl h0 [r0, ri, i0, i1, va]).1 gl103_1
  have nq103_0_1 : b103 ≠ b103_1 := by omega
  have gl103_2 : h0.size ≤ b103_2 := by omega
  have g_b103_2 : n0 ≤ b103_2 := Nat.le_trans Z0 gl103_2
  have sz_b103_2 : h0.size ≤ b103_2 := Nat.le_trans (Keep.refl h0 [r0, ri, i0, i1, va]).1 gl103_2
  have nq103_0_2 : b103 ≠ b103_2 := by omega
  have nq103_1_2 : b103_1 ≠ b103_2 := by omega
  have ZZ104 : n0 ≤ h103.size := Nat.le_trans Z0 E103.1
  have KK105 : Keep h0 h103 [r0, ri, i0, i1, va] := (Keep.refl h0 [r0, ri, i0, i1, va]).ext E103
  have V_b103_1 : Arv Z h103 b103_1 kc103 .double (2 : Int32) [(.double 0), (.double 0)] (.double 0) := (Arv.new Aj103_0 (by decide)).pad (pad_rep [] (.double 0) 2)
  have V_b103_2 : Arv Z h103 b103_2 kc103 .double (2 : Int32) [(.double 0), (.double 0)] (.double 0) := (Arv.new Aj103_1 (by decide)).pad (pad_rep [] (.double 0) 2)
  have Fc106 := (F_entryRows_r0.ext E103)
  have Fc107 := (F_entryValues_r0.ext E103)
  have nq108 : i0 ≠ b103_1 := (Nat.ne_of_lt (Nat.lt_of_lt_of_le E_i0.lt gl103_1))
  have nq109 : i0 ≠ b103_2 := (Nat.ne_of_lt (Nat.lt_of_lt_of_le E_i0.lt gl103_2))
  have nq110 : f2 ≠ b103_1 := (Nat.ne_of_lt (Nat.lt_of_lt_of_le E_f2.lt gl103_1))
  have nq111 : f2 ≠ b103_2 := (Nat.ne_of_lt (Nat.lt_of_lt_of_le E_f2.lt gl103_2))
  obtain ⟨T112, L112, X112, N112, P112_0, P112_1, P112_2, P112_3, st112⟩ := own_X02 l Z a0 hw r0 b103 b103_1 b103_2 ri i0 i1 er ev ba e1 e2 f1 f2 b103_1 b103_2 k103 kc103 kri ki ker kev kba ke2 kf2 wE wF (.int 1) (0 : Int32) (1 : Int32) ee d1 (0 : UInt64) (0 : UInt64) (0 : UInt64) (0 : UInt64) (0 : UInt64) (0 : UInt64) h103 n0 ZZ104 (F_rows_r0.ext E103) (F_basic_r0.ext E103) Fc106 Fc107 (F_inverse_r0.ext E103) A103 (V_er.ext E103) (V_ev.ext E103) (V_ba.ext E103) (V_ri.ext E103) (V_e2.ext E103) (V_f2.ext E103) (V_i0.ext E103) V_b103_1 V_b103_2 (E_r0.ext E103) Ea103 (E_er.ext E103) (E_ev.ext E103) (E_ba.ext E103) (E_ri.ext E103) (E_e2.ext E103) (E_f2.ext E103) (E_i0.ext E103) Ej103_0 Ej103_1 g_b103_1 g_b103_2 g_i0 nq108 nq109 nq110 nq111 nq103_1_2 (⟨by decide, by decide⟩) rfl (⟨by decide, by decide⟩) rfl hx hby hml hZ hown hnm X103 e103 N0
  have ZZ113 : n0 ≤ T112.heap.size := Nat.le_trans ZZ104 P112_0.1
  have KK114 : Keep h0 T112.heap [r0, ri, i0, i1, va] := Keep.trans KK105 P112_0 (allS (Or.inr sz_b103_1) (allS (Or.inr sz_b103_2) (allS (Or.inl (List.mem_of_getElem? (i := 2) rfl)) all0)))
  have Fc115 := ((E_r0.ext E103).keep P112_0)
  have nq116 : r0 ≠ b103_1 := (ne_exa Fc115 (Ej103_0.keep P112_0) (by decide))
  have nq117 : r0 ≠ b103_2 := (ne_exa Fc115 (Ej103_1.keep P112_0) (by decide))
  have Fc118 := ((E_i0.ext E103).keep P112_0)
  have nq119 : r0 ≠ i0 := (ne_exa Fc115 Fc118 (by decide))
  have Fc120 := ((F_rows_r0.ext E103).keep P112_0 (ninS nq116 (ninS nq117 (ninS nq119 nin0))))
  have Fc121 := ((F_basic_r0.ext E103).keep P112_0 (ninS nq116 (ninS nq117 (ninS nq119 nin0))))
  have Fc122 := (Fc106.keep P112_0 (ninS nq116 (ninS nq117 (ninS nq119 nin0))))
  have Fc123 := (Fc107.keep P112_0 (ninS nq116 (ninS nq117 (ninS nq119 nin0))))
  have Fc124 := ((F_inverse_r0.ext E103).keep P112_0 (ninS nq116 (ninS nq117 (ninS nq119 nin0))))
  have nq125 : b103 ≠ i0 := (ne_exa (Ea103.keep P112_0) Fc118 (by decide))
  have Fc126 := (A103.keep P112_0 (ninS nq103_0_1 (ninS nq103_0_2 (ninS nq125 nin0))))
  have Fc127 := (E_er.keep KK114)
  have nq128 : er ≠ r0 := (ne_exa Fc127 Fc115 (by decide))
  have Fc129 := ((E_ri.ext E103).keep P112_0)
  have nq130 : er ≠ ri := (ne_exa Fc127 Fc129 (by decide))
  have nq131 : er ≠ i0 := (ne_exa Fc127 Fc118 (by decide))
  have Fc132 := ((E_i1.ext E103).keep P112_0)
  have nq133 : er ≠ i1 := (ne_exa Fc127 Fc132 (by decide))
  have Fc134 := ((E_va.ext E103).keep P112_0)
  have nq135 : er ≠ va := (ne_exa Fc127 Fc134 (by decide))
  have Fc136 := (V_er.keep KK114 (ninS nq128 (ninS nq130 (ninS nq131 (ninS nq133 (ninS nq135 nin0))))))
  have Fc137 := (E_ev.keep KK114)
  have nq138 : ev ≠ r0 := (ne_exa Fc137 Fc115 (by decide))
  have nq139 : ev ≠ b103_1 := (ne_exa Fc137 (Ej103_0.keep P112_0) (by decide))
  have nq140 : ev ≠ b103_2 := (ne_exa Fc137 (Ej103_1.keep P112_0) (by decide))
  have nq141 : ev ≠ i0 := (ne_exa Fc137 Fc118 (by decide))
  have Fc142 := ((V_ev.ext E103).keep P112_0 (ninS nq139 (ninS nq140 (ninS nq141 nin0))))
  have Fc143 := (E_ba.keep KK114)
  have nq144 : ba ≠ r0 := (ne_exa Fc143 Fc115 (by decide))
  have nq145 : ba ≠ ri := (ne_exa Fc143 Fc129 (by decide))
  have nq146 : ba ≠ i0 := (ne_exa Fc143 Fc118 (by decide))
  have nq147 : ba ≠ i1 := (ne_exa Fc143 Fc132 (by decide))
  have nq148 : ba ≠ va := (ne_exa Fc143 Fc134 (by decide))
  have Fc149 := (V_ba.keep KK114 (ninS nq144 (ninS nq145 (ninS nq146 (ninS nq147 (ninS nq148 nin0))))))
  have nq150 : ri ≠ b103_1 := (ne_exa Fc129 (Ej103_0.keep P112_0) (by decide))
  have nq151 : ri ≠ b103_2 := (ne_exa Fc129 (Ej103_1.keep P112_0) (by decide))
  have nq152 : ri ≠ i0 := (ne_exa Fc129 Fc118 (by decide))
  have Fc153 := ((V_ri.ext E103).keep P112_0 (ninS nq150 (ninS nq151 (ninS nq152 nin0))))
  have Fc154 := (E_e1.keep KK114)
  have nq155 : e1 ≠ r0 := (ne_exa Fc154 Fc115 (by decide))
  have nq156 : e1 ≠ ri := (ne_exa Fc154 Fc129 (by decide))
  have nq157 : e1 ≠ i0 := (ne_exa Fc154 Fc118 (by decide))
  have nq158 : e1 ≠ i1 := (ne_exa Fc154 Fc132 (by decide))
  have nq159 : e1 ≠ va := (ne_exa Fc154 Fc134 (by decide))
  have Fc160 := (V_e1.keep KK114 (ninS nq155 (ninS nq156 (ninS nq157 (ninS nq158 (ninS nq159 nin0))))))
  have Fc161 := (E_f1.keep KK114)
  have nq162 : f1 ≠ r0 := (ne_exa Fc161 Fc115 (by decide))
  have nq163 : f1 ≠ ri := (ne_exa Fc161 Fc129 (by decide))
  have nq164 : f1 ≠ b103_1 := (Nat.ne_of_lt (Nat.lt_of_lt_of_le E_f1.lt gl103_1))
  have nq165 : f1 ≠ b103_2 := (Nat.ne_of_lt (Nat.lt_of_lt_of_le E_f1.lt gl103_2))
  have Fc166 := ((V_f1.ext E103).keep P112_0 (ninS nq164 (ninS nq165 (ninS ne_f1_i0 nin0))))
  have nq167 : i1 ≠ b103_1 := (Nat.ne_of_lt (Nat.lt_of_lt_of_le E_i1.lt gl103_1))
  have nq168 : i1 ≠ b103_2 := (Nat.ne_of_lt (Nat.lt_of_lt_of_le E_i1.lt gl103_2))
  have Fc169 := ((V_i1.ext E103).keep P112_0 (ninS nq167 (ninS nq168 (ninS (Ne.symm ne_i0_i1) nin0))))
  obtain ⟨T170, L170, X170, N170, P170_0, P170_1, P170_2, st170⟩ := own_X11 l Z a0 hw r0 b103 b103_1 b103_2 ri i0 i1 er ev ba e1 e2 f1 f2 b103_1 k103 kc103 kri ki ker kev kba ke1 kf1 wE wF (.int 2) (0 : Int32) (2 : Int32) (2 : Int32) d0 ee (0 : UInt64) (0 : UInt64) (0 : UInt64) T112.heap n0 ZZ113 Fc120 Fc121 Fc122 Fc123 Fc124 Fc126 Fc136 Fc142 Fc149 Fc153 Fc160 Fc166 Fc169 P112_2 Fc115 (Ea103.keep P112_0) Fc127 Fc137 Fc143 Fc129 Fc154 Fc161 Fc132 (Ej103_0.keep P112_0) g_b103_1 g_i1 nq167 nq164 (⟨by decide, by decide⟩) rfl hx hby hml hZ hown hnm X112 rfl N112
  have ZZ171 : n0 ≤ T170.heap.size := Nat.le_trans ZZ113 P170_0.1
  have KK172 : Keep h0 T170.heap [r0, ri, i0, i1, va] := Keep.trans KK114 P170_0 (allS (Or.inr sz_b103_1) (allS (Or.inl (List.mem_of_getElem? (i := 3) rfl)) all0))
  have nq173 : r0 ≠ i1 := (ne_exa (Fc115.keep P170_0) (Fc132.keep P170_0) (by decide))
  have Fc174 := (Fc120.keep P170_0 (ninS nq116 (ninS nq173 nin0)))
  obtain ⟨T175, X175, e175, st175⟩ := getF X170 hx hZ hown (host := "") (Or.inl (own_w hw 30 rfl)) Via.refl rfl Fc174 (g := (mkF m 17 #[oR r0, oR b103, oI 2, oI 1, oI 1, oU, oU, oU, oU, oU] [(.ref r0), (.int 2)])) rfl rfl (hb hby d6_17)
  obtain ⟨T176, X176, e176, st176⟩ := getF X175 hx hZ hown (host := "") (Or.inl (own_w hw 30 rfl)) Via.refl e175 Fc174 (g := (mkF m 102 #[oR r0, oR b103, oI 0, oI 1, oI 1, oU, oU, oU, oU, oU] [(.ref r0), (.int 0)])) rfl rfl (hb hby d6_102)
  obtain ⟨T177, X177, e177, st177⟩ := getF X176 hx hZ hown (host := "") (Or.inl (own_w hw 30 rfl)) Via.refl e176 Fc174 (g := (mkF m 118 #[oR r0, oR b103, oI 0, oI 0, oI 1, oU, oU, oU, oU, oU] [(.ref r0), (.int 1)])) rfl rfl (hb hby d6_118)
  have Fc178 := ((Ea103.keep P112_0).keep P170_0)
  have nq179 : b103 ≠ i1 := (ne_exa Fc178 (Fc132.keep P170_0) (by decide))
  have Fc180 := (Fc126.keep P170_0 (ninS nq103_0_1 (ninS nq179 nin0)))
  obtain ⟨cl181, Ar181, qk181, Sz181, Nz181, Hh181, Gg181⟩ := id Fc180
  have hin182 : ¬ ((1 : Int32) < 0 ∨ cl181.slots.size ≤ ((1 : Int32)).toNatClampNeg) := inb_of Sz181 ⟨by decide, by decide⟩
  have hat182 : cl181.slots[((1 : Int32)).toNatClampNeg]? = some (.ref b103_2) := Has.at Hh181 hin182 rfl
  have Fc183 := (P112_3.keep P170_0 (ninS (Ne.symm nq103_1_2) (ninS (Ne.symm nq168) nin0)))
  obtain ⟨cl184, Ar184, qk184, Sz184, Nz184, Hh184, Gg184⟩ := id Fc183
  have hin185 : ¬ ((0 : Int32) < 0 ∨ cl184.slots.size ≤ ((0 : Int32)).toNatClampNeg) := inb_of Sz184 ⟨by decide, by decide⟩
  have hat185 : cl184.slots[((0 : Int32)).toNatClampNeg]? = some (.double d1) := Has.at Hh184 hin185 rfl
  obtain ⟨T186, X186, e186, st186⟩ := natS X177 hx hZ hown (own_w hw 75 rfl) (own_w hw 76 rfl) (own_w hw 77 rfl) (own_w hw 78 rfl) (by decide) e177 (W := 0) (fun q => Jvm.Free.Fl.Abs.absD_pays d1 q (by decide) (by decide)) (g := (mkF m 130 #[oR r0, oR b103, oI 0, oI 0, oI 1, oU, oU, oU, oU, oU] [(.double d1)])) rfl (by rw [hml]; rfl) (argsL := [(.double d1)]) (rest := []) (lenOf pd1 rfl) rfl (by show 2 * 0 + _ ≤ _; exact Nat.le_of_eq rfl) (hb hby d6_130) (by decide) (by decide) ⟨rfl, hn1⟩ rfl
  have hin187 : ¬ ((0 : Int32) < 0 ∨ cl181.slots.size ≤ ((0 : Int32)).toNatClampNeg) := inb_of Sz181 ⟨by decide, by decide⟩
  have hat187 : cl181.slots[((0 : Int32)).toNatClampNeg]? = some (.ref b103_1) := Has.at Hh181 hin187 rfl
  obtain ⟨cl188, Ar188, qk188, Sz188, Nz188, Hh188, Gg188⟩ := id P170_2
  have hin189 : ¬ ((0 : Int32) < 0 ∨ cl188.slots.size ≤ ((0 : Int32)).toNatClampNeg) := inb_of Sz188 ⟨by decide, by decide⟩
  have hat189 : cl188.slots[((0 : Int32)).toNatClampNeg]? = some (.double ee) := Has.at Hh188 hin189 rfl
  obtain ⟨T190, X190, e190, st190⟩ := natS X186 hx hZ hown (own_w hw 75 rfl) (own_w hw 76 rfl) (own_w hw 77 rfl) (own_w hw 78 rfl) (by decide) e186 (W := 2) (fun q => Jvm.Free.Fl.Abs.absD_pays ee q (by decide) (by decide)) (g := (mkF m 138 #[oR r0, oR b103, oI 0, oI 0, oI 1, oU, oU, oU, oU, oU] [(.double ee), (.double (d1 &&& 0x7fffffffffffffff))])) rfl (by rw [hml]; rfl) (argsL := [(.double ee)]) (rest := [(.double (d1 &&& 0x7fffffffffffffff))]) (lenOf pd1 rfl) rfl (by show 2 * 0 + _ ≤ _; exact Nat.le_of_eq rfl) (hb hby d6_138) (by decide) (by decide) ⟨rfl, hne⟩ rfl
  have pre191 : ∀ t, Steps p.tables e below (T190.setTop (mkF m 142 #[oR r0, oR b103, oI 0, oI 0, oI 1, oU, oU, oU, oU, oU] [(.int (cmpValue (FP.dcmp (d1 &&& 0x7fffffffffffffff) (ee &&& 0x7fffffffffffffff)) .l))])) t → Steps p.tables e below (s₁.setTop (mkF m 0 #[oR r0, oU, oU, oU, oU, oU, oU, oU, oU, oU] [])) t := by
    intro t kt
    show own_S p e below s₁ m 0 #[oR r0, oU, oU, oU, oU, oU, oU, oU, oU, oU] [] _
    refine XS.aloadN X0.here hx rfl (hb hby d6_0) rfl rfl ?_
    show own_S p e below s₁ m 1 _ [(.ref r0)] _
    refine st101 _ ?_
    show own_S p e below T101 m 4 _ [(.int 2)] _
    refine XS.aloadN X101.here hx rfl (hb hby d6_4) rfl rfl ?_
    show own_S p e below T101 m 5 _ [(.ref r0), (.int 2)] _
    refine st102 _ ?_
    show own_S p e below T102 m 8 _ [(.int 2), (.int 2)] _
    refine st103 _ ?_
    show own_S p e below T103 m 12 _ [(.ref b103)] _
    refine XS.astoreN X103.here hx rfl (hb hby d6_12) rfl rfl (l' := #[oR r0, oR b103, oU, oU, oU, oU, oU, oU, oU, oU]) rfl ?_
    refine XS.iconst X103.here hx rfl (hb hby d6_13) ?_
    refine XS.istoreN X103.here hx rfl (hb hby d6_14) rfl (l' := #[oR r0, oR b103, oI 0, oU, oU, oU, oU, oU, oU, oU]) rfl ?_
    show own_S p e below T103 m 15 #[oR r0, oR b103, oI 0, oU, oU, oU, oU, oU, oU, oU] [] _
    refine st112 _ ?_
    show own_S p e below T112 m 15 #[oR r0, oR b103, oI 1, oI 2, oI 2, oU, oU, oU, oU, oU] [] _
    refine st170 _ ?_
    show own_S p e below T170 m 15 #[oR r0, oR b103, oI 2, oI 1, oI 1, oU, oU, oU, oU, oU] [] _
    refine XS.iloadN X170.here hx rfl (hb hby d6_15) rfl ?_
    refine XS.aloadN X170.here hx rfl (hb hby d6_16) rfl rfl ?_
    show own_S p e below T170 m 17 _ [(.ref r0), (.int 2)] _
    refine st175 _ ?_
    show own_S p e below T175 m 20 _ [(.int 2), (.int 2)] _
    refine XS.icmpYes X175.here hx rfl (pc0 := 20) (pc' := 98) rfl (hb hby d6_20) rfl (flt (by decide : ¬ ((2 : Int32) < (2 : Int32)))).2.1 (by decide) (by decide) ?_
    refine XS.iconst X175.here hx rfl (hb hby d6_98) ?_
    refine XS.istoreN X175.here hx rfl (hb hby d6_99) rfl (l' := #[oR r0, oR b103, oI 0, oI 1, oI 1, oU, oU, oU, oU, oU]) rfl ?_
    refine XS.iloadN X175.here hx rfl (hb hby d6_100) rfl ?_
    show own_S p e below T175 m 101 _ [(.int 0)] _
    refine XS.aloadN X175.here hx rfl (hb hby d6_101) rfl rfl ?_
    show own_S p e below T175 m 102 _ [(.ref r0), (.int 0)] _
    refine st176 _ ?_
    show own_S p e below T176 m 105 _ [(.int 2), (.int 0)] _
    refine XS.icmpNo X176.here hx rfl (hb hby d6_105) rfl (tlt (by decide : (0 : Int32) < (2 : Int32))).2.1 ?_
    refine XS.iloadN X176.here hx rfl (hb hby d6_108) rfl ?_
    refine XS.istoreN X176.here hx rfl (hb hby d6_109) rfl (l' := #[oR r0, oR b103, oI 0, oI 0, oI 1, oU, oU, oU, oU, oU]) rfl ?_
    refine XS.iloadN X176.here hx rfl (hb hby d6_110) rfl ?_
    show own_S p e below T176 m 111 _ [(.int 0)] _
    refine XS.iconst X176.here hx rfl (hb hby d6_111) ?_
    show own_S p e below T176 m 112 _ [(.int 1), (.int 0)] _
    refine XS.iadd X176.here hx rfl (hb hby d6_112) rfl ?_
    show own_S p e below T176 m 113 _ [(.int ((0 : Int32) + (1 : Int32)))] _
    refine reI (by decide : ((0 : Int32) + (1 : Int32)) = (1 : Int32)) ?_
    show own_S p e below T176 m 113 _ [(.int 1)] _
    refine XS.istore X176.here hx rfl (hb hby d6_113) rfl (l' := #[oR r0, oR b103, oI 0, oI 0, oI 1, oU, oU, oU, oU, oU]) rfl ?_
    refine XS.iload X176.here hx rfl (hb hby d6_115) rfl ?_
    refine XS.aloadN X176.here hx rfl (hb hby d6_117) rfl rfl ?_
    show own_S p e below T176 m 118 #[oR r0, oR b103, oI 0, oI 0, oI 1, oU, oU, oU, oU, oU] [(.ref r0), (.int 1)] _
    refine st177 _ ?_
    show own_S p e below T177 m 121 _ [(.int 2), (.int 1)] _
    refine XS.icmpNo X177.here hx rfl (hb hby d6_121) rfl (tlt (by decide : (1 : Int32) < (2 : Int32))).2.1 ?_
    refine XS.aloadN X177.here hx rfl (hb hby d6_124) rfl rfl ?_
    refine XS.iload X177.here hx rfl (hb hby d6_125) rfl ?_
    show own_S p e below T177 m 127 _ [(.int 1), (.ref b103)] _
    refine X177.aaload hx (j := (1 : Int32)) (v := (.ref b103_2)) (by rw [e177]; exact Ar181.1) (State.isArrayOf_alike hZ.alike Ar181.2.1) rfl Ar181.2.2 hin182 hat182 (g := (mkF m 127 #[oR r0, oR b103, oI 0, oI 0, oI 1, oU, oU, oU, oU, oU] [(.int 1), (.ref b103)])) rfl rfl (hb hby d6_127) _ ?_
    show own_S p e below T177 m 128 _ [(.ref b103_2)] _
    refine XS.iloadN X177.here hx rfl (hb hby d6_128) rfl ?_
    show own_S p e below T177 m 129 _ [(.int 0), (.ref b103_2)] _
    refine X177.daload hx (j := (0 : Int32)) (v := (.double d1)) (by rw [e177]; exact Ar184.1) (State.isArrayOf_alike hZ.alike Ar184.2.1) Ar184.2.2 hin185 hat185 (g := (mkF m 129 #[oR r0, oR b103, oI 0, oI 0, oI 1, oU, oU, oU, oU, oU] [(.int 0), (.ref b103_2)])) rfl rfl (hb hby d6_129) _ ?_
    show own_S p e below T177 m 130 #[oR r0, oR b103, oI 0, oI 0, oI 1, oU, oU, oU, oU, oU] [(.double d1)] _
    refine st186 _ ?_
    show own_S p e below T186 m 133 _ [(.double (d1 &&& 0x7fffffffffffffff))] _
    refine XS.aloadN X186.here hx rfl (hb hby d6_133) rfl rfl ?_
    refine XS.iloadN X186.here hx rfl (hb hby d6_134) rfl ?_
    show own_S p e below T186 m 135 _ [(.int 0), (.ref b103), (.double (d1 &&& 0x7fffffffffffffff))] _
    refine X186.aaload hx (j := (0 : Int32)) (v := (.ref b103_1)) (by rw [e186]; exact Ar181.1) (State.isArrayOf_alike hZ.alike Ar181.2.1) rfl Ar181.2.2 hin187 hat187 (g := (mkF m 135 #[oR r0, oR b103, oI 0, oI 0, oI 1, oU, oU, oU, oU, oU] [(.int 0), (.ref b103), (.double (d1 &&& 0x7fffffffffffffff))])) rfl rfl (hb hby d6_135) _ ?_
    show own_S p e below T186 m 136 _ [(.ref b103_1), (.double (d1 &&& 0x7fffffffffffffff))] _
    refine XS.iloadN X186.here hx rfl (hb hby d6_136) rfl ?_
    show own_S p e below T186 m 137 _ [(.int 0), (.ref b103_1), (.double (d1 &&& 0x7fffffffffffffff))] _
    refine X186.daload hx (j := (0 : Int32)) (v := (.double ee)) (by rw [e186]; exact Ar188.1) (State.isArrayOf_alike hZ.alike Ar188.2.1) Ar188.2.2 hin189 hat189 (g := (mkF m 137 #[oR r0, oR b103, oI 0, oI 0, oI 1, oU, oU, oU, oU, oU] [(.int 0), (.ref b103_1), (.double (d1 &&& 0x7fffffffffffffff))])) rfl rfl (hb hby d6_137) _ ?_
    show own_S p e below T186 m 138 _ [(.double ee), (.double (d1 &&& 0x7fffffffffffffff))] _
    refine st190 _ ?_
    show own_S p e below T190 m 141 #[oR r0, oR b103, oI 0, oI 0, oI 1, oU, oU, oU, oU, oU] [(.double (ee &&& 0x7fffffffffffffff)), (.double (d1 &&& 0x7fffffffffffffff))] _
    refine XS.dcmpS X190.here hx rfl (v := (cmpValue (FP.dcmp (d1 &&& 0x7fffffffffffffff) (ee &&& 0x7fffffffffffffff)) .l)) (hb hby d6_141) rfl rfl ?_
    exact kt
  by_cases hs : (0 : Int32) < (cmpValue (FP.dcmp (d1 &&& 0x7fffffffffffffff) (ee &&& 0x7fffffffffffffff)) .l)
  · skip
    obtain ⟨T192, X192, e192, st192⟩ := getF X190 hx hZ hown (host := "") (Or.inl (own_w hw 30 rfl)) Via.refl e190 Fc174 (g := (mkF m 118 #[oR r0, oR b103, oI 0, oI 1, oI 2, oU, oU, oU, oU, oU] [(.ref r0), (.int 2)])) rfl rfl (hb hby d6_118)
    have hOK : own_ok g0 g1 d1 0 ee d0 0 (4607182418800017408 : UInt64) (4607182418800017408 : UInt64) 0 i00 i01 i10 i11 := hH.1 hs
    obtain ⟨hTA, hKA, hAB⟩ := hOK
    have Fc193 := (Fc124.keep P170_0 (ninS nq116 (ninS nq173 nin0)))
    have nq194 : ri ≠ i1 := (ne_exa (Fc129.keep P170_0) (Fc132.keep P170_0) (by decide))
    have Fc195 := (Fc153.keep P170_0 (ninS nq150 (ninS nq194 nin0)))
    have Fc196 := ((Ej103_0.keep P112_0).keep P170_0)
    have Fc197 := ((Ej103_1.keep P112_0).keep P170_0)
    have nq198 : ri ≠ b103 := (Nat.ne_of_lt (Nat.lt_of_lt_of_le E_ri.lt gl103_0))
    obtain ⟨T199, L199, X199, N199, P199_0, P199_1, P199_2, st199⟩ := own_C1 l Z a0 hw r0 b103 ri b103_1 b103_2 i0 i1 k103 kri kc103 d1 (0 : UInt64) T170.heap n0 ZZ171 Fc193 Fc180 Fc195 Fc183 (Fc115.keep P170_0) Fc178 (Fc129.keep P170_0) Fc196 Fc197 (Fc118.keep P170_0) (Fc132.keep P170_0) O103 O_ri g_b103 g_ri (Ne.symm nq198) hTA hx hby hml hZ hown hnm X192 e192 N170
    have ZZ200 : n0 ≤ T199.heap.size := Nat.le_trans ZZ171 P199_0.1
    have KK201 : Keep h0 T199.heap [r0, ri, i0, i1, va] := Keep.trans KK172 P199_0 (allS (Or.inr sz_b103) (allS (Or.inl (List.mem_of_getElem? (i := 1) rfl)) all0))
    have Fc202 := ((Fc115.keep P170_0).keep P199_0)
    have nq203 : r0 ≠ b103 := (ne_exa Fc202 (Fc178.keep P199_0) (by decide))
    have Fc204 := ((Fc129.keep P170_0).keep P199_0)
    have nq205 : r0 ≠ ri := (ne_exa Fc202 Fc204 (by decide))
    have Fc206 := (Fc174.keep P199_0 (ninS nq203 (ninS nq205 nin0)))
    have Fc207 := (Fc193.keep P199_0 (ninS nq203 (ninS nq205 nin0)))
    have Fc208 := (Fc183.keep P199_0 (ninS (Ne.symm nq103_0_2) (ninS (Ne.symm nq151) nin0)))
    have Fc209 := (P170_2.keep P199_0 (ninS (Ne.symm nq103_0_1) (ninS (Ne.symm nq150) nin0)))
    have Fc210 := (P170_1.keep P199_0 (ninS (Ne.symm nq179) (ninS (Ne.symm nq194) nin0)))
    have Fc211 := ((P112_1.keep P170_0 (ninS nq108 (ninS ne_i0_i1 nin0))).keep P199_0 (ninS (Ne.symm nq125) (ninS (Ne.symm nq152) nin0)))
    have Fc212 := ((Fc132.keep P170_0).keep P199_0)
    have Fc213 := ((Fc118.keep P170_0).keep P199_0)
    obtain ⟨a1_214, b1_214, c1_214, d1_214, x01_214, x11_214, y01_214, y11_214, s9'_214, T214, L214, X214, N214, P214_0, P214_1, P214_2, P214_3, P214_4, hrA, P214_6, st214⟩ := own_E0 l Z a0 hw r0 b103 ri b103_2 b103_1 i1 i0 k103 kri kc103 ki (1 : Int32) d1 (0 : UInt64) ee d0 (0 : UInt64) (4607182418800017408 : UInt64) (4607182418800017408 : UInt64) (0 : UInt64) T199.heap n0 ZZ200 Fc206 Fc207 P199_1 P199_2 Fc208 Fc209 Fc210 Fc211 Fc202 (Fc178.keep P199_0) Fc204 (Fc197.keep P199_0) (Fc196.keep P199_0) Fc212 Fc213 g_b103_2 g_b103_1 g_i1 g_i0 (Ne.symm nq103_1_2) (Ne.symm ne_i0_i1) (Ne.symm nq168) (Ne.symm nq109) (Ne.symm nq167) (Ne.symm nq108) hKA hx hby hml hZ hown hnm X199 rfl N199
    have ZZ215 : n0 ≤ T214.heap.size := Nat.le_trans ZZ200 P214_0.1
    have KK216 : Keep h0 T214.heap [r0, ri, i0, i1, va] := Keep.trans KK201 P214_0 (allS (Or.inr sz_b103_2) (allS (Or.inr sz_b103_1) (allS (Or.inl (List.mem_of_getElem? (i := 3) rfl)) (allS (Or.inl (List.mem_of_getElem? (i := 2) rfl)) all0))))
    have hEB := hAB _ _ _ _ _ _ _ _ hrA
    have Fc217 := (Fc206.keep P214_0 (ninS nq117 (ninS nq116 (ninS nq173 (ninS nq119 nin0)))))
    have Fc218 := (Fc207.keep P214_0 (ninS nq117 (ninS nq116 (ninS nq173 (ninS nq119 nin0)))))
    have Fc219 := (P199_1.keep P214_0 (ninS nq103_0_2 (ninS nq103_0_1 (ninS nq179 (ninS nq125 nin0)))))
    have Fc220 := (P199_2.keep P214_0 (ninS nq151 (ninS nq150 (ninS nq194 (ninS nq152 nin0)))))
    have Fc221 := ((Fc178.keep P199_0).keep P214_0)
    have Fc222 := ((Fc197.keep P199_0).keep P214_0)
    have Fc223 := ((Fc196.keep P199_0).keep P214_0)
    obtain ⟨a1_224, b1_224, c1_224, d1_224, x01_224, x11_224, y01_224, y11_224, s9'_224, T224, L224, X224, N224, P224_0, P224_1, P224_2, P224_3, P224_4, hrB, P224_6, P224_7, P224_8, st224⟩ := own_E1 l Z a0 hw r0 b103 ri b103_2 b103_1 i1 i0 k103 kri kc103 ki (1 : Int32) a1_214 b1_214 c1_214 d1_214 x01_214 x11_214 y01_214 y11_214 d1 ee (s9'_214) T214.heap n0 ZZ215 Fc217 Fc218 Fc219 Fc220 P214_1 P214_2 P214_3 P214_4 (Fc202.keep P214_0) Fc221 (Fc204.keep P214_0) Fc222 Fc223 (Fc212.keep P214_0) (Fc213.keep P214_0) g_b103_2 g_b103_1 g_i1 g_i0 (Ne.symm nq103_1_2) (Ne.symm ne_i0_i1) (Ne.symm nq168) (Ne.symm nq109) (Ne.symm nq167) (Ne.symm nq108) hEB.2.1 O103 O_ri g_b103 g_ri (Ne.symm nq198) hEB.1 P214_6 hx hby hml hZ hown hnm X214 rfl N214
    have ZZ225 : n0 ≤ T224.heap.size := Nat.le_trans ZZ215 P224_0.1
    have KK226 : Keep h0 T224.heap [r0, ri, i0, i1, va] := Keep.trans KK216 P224_0 (allS (Or.inr sz_b103) (allS (Or.inl (List.mem_of_getElem? (i := 1) rfl)) (allS (Or.inr sz_b103_2) (allS (Or.inr sz_b103_1) (allS (Or.inl (List.mem_of_getElem? (i := 3) rfl)) (allS (Or.inl (List.mem_of_getElem? (i := 2) rfl)) all0))))))
    obtain ⟨hE0, hE1, hE2, hE3, hW0, hW1⟩ := hEB.2.2 _ _ _ _ _ _ _ _ hrB
    have Fc227 := (Fc217.keep P224_0 (ninS nq203 (ninS nq205 (ninS nq117 (ninS nq116 (ninS nq173 (ninS nq119 nin0)))))))
    have Fc228 := (Fc218.keep P224_0 (ninS nq203 (ninS nq205 (ninS nq117 (ninS nq116 (ninS nq173 (ninS nq119 nin0)))))))
    have Fc229 := ((((((F_rhs_r0.ext E103).keep P112_0 (ninS nq116 (ninS nq117 (ninS nq119 nin0)))).keep P170_0 (ninS nq116 (ninS nq173 nin0))).keep P199_0 (ninS nq203 (ninS nq205 nin0))).keep P214_0 (ninS nq117 (ninS nq116 (ninS nq173 (ninS nq119 nin0))))).keep P224_0 (ninS nq203 (ninS nq205 (ninS nq117 (ninS nq116 (ninS nq173 (ninS nq119 nin0)))))))
    have Fc230 := ((((((F_values_r0.ext E103).keep P112_0 (ninS nq116 (ninS nq117 (ninS nq119 nin0)))).keep P170_0 (ninS nq116 (ninS nq173 nin0))).keep P199_0 (ninS nq203 (ninS nq205 nin0))).keep P214_0 (ninS nq117 (ninS nq116 (ninS nq173 (ninS nq119 nin0))))).keep P224_0 (ninS nq203 (ninS nq205 (ninS nq117 (ninS nq116 (ninS nq173 (ninS nq119 nin0)))))))
    have Fc231 := (E_rh.keep KK226)
    have Fc232 := ((Fc202.keep P214_0).keep P224_0)
    have nq233 : rh ≠ r0 := (ne_exa Fc231 Fc232 (by decide))
    have Fc234 := ((Fc204.keep P214_0).keep P224_0)
    have nq235 : rh ≠ ri := (ne_exa Fc231 Fc234 (by decide))
    have Fc236 := (V_rh.keep KK226 (ninS nq233 (ninS nq235 (ninS ne_rh_i0 (ninS ne_rh_i1 (ninS ne_rh_va nin0))))))
    have nq237 : va ≠ b103_1 := (Nat.ne_of_lt (Nat.lt_of_lt_of_le E_va.lt gl103_1))
    have nq238 : va ≠ b103_2 := (Nat.ne_of_lt (Nat.lt_of_lt_of_le E_va.lt gl103_2))
    have Fc239 := ((((Fc134.keep P170_0).keep P199_0).keep P214_0).keep P224_0)
    have nq240 : va ≠ b103 := (ne_exa Fc239 (Fc221.keep P224_0) (by decide))
    have nq241 : va ≠ ri := (ne_exa Fc239 Fc234 (by decide))
    have Fc242 := ((((((V_va.ext E103).keep P112_0 (ninS nq237 (ninS nq238 (ninS ne_va_i0 nin0)))).keep P170_0 (ninS nq237 (ninS ne_va_i1 nin0))).keep P199_0 (ninS nq240 (ninS nq241 nin0))).keep P214_0 (ninS nq238 (ninS nq237 (ninS ne_va_i1 (ninS ne_va_i0 nin0))))).keep P224_0 (ninS nq240 (ninS nq241 (ninS nq238 (ninS nq237 (ninS ne_va_i1 (ninS ne_va_i0 nin0)))))))
    obtain ⟨T243, L243, X243, N243, P243_0, P243_1, st243⟩ := own_SV l Z a0 hw r0 b103 ri i1 i0 rh va kri ki krh kva g0 g1 x01_224 x11_224 y01_224 y11_224 (0 : UInt64) (0 : UInt64) d1_214 (FP.ddiv d1_214 d1_214) (s9'_224) T224.heap n0 ZZ225 Fc227 Fc228 Fc229 Fc230 P224_8 P224_3 P224_4 Fc236 Fc242 Fc232 Fc234 Fc239 g_va ne_va_i1 ne_va_i0 ne_rh_va hW0 hW1 P224_6 hx hby hml hZ hown hnm X224 rfl N224
    have ZZ244 : n0 ≤ T243.heap.size := Nat.le_trans ZZ225 P243_0.1
    have KK245 : Keep h0 T243.heap [r0, ri, i0, i1, va] := Keep.trans KK226 P243_0 (allS (Or.inl (List.mem_of_getElem? (i := 4) rfl)) all0)
    have nq246 : r0 ≠ va := (ne_exa (Fc232.keep P243_0) (Fc239.keep P243_0) (by decide))
    have Fc247 := (((((((F_pivotsSinceRefresh_r0.ext E103).keep P112_0 (ninS nq116 (ninS nq117 (ninS nq119 nin0)))).keep P170_0 (ninS nq116 (ninS nq173 nin0))).keep P199_0 (ninS nq203 (ninS nq205 nin0))).keep P214_0 (ninS nq117 (ninS nq116 (ninS nq173 (ninS nq119 nin0))))).keep P224_0 (ninS nq203 (ninS nq205 (ninS nq117 (ninS nq116 (ninS nq173 (ninS nq119 nin0))))))).keep P243_0 (ninS nq246 nin0))
    obtain ⟨T248, h248, X248, e248, W248, st248⟩ := putF X243 hx hZ hown (host := "") (Or.inl (own_w hw 83 rfl)) Via.refl rfl Fc247 (Fc232.keep P243_0) (Or.inl (own_w hw 84 rfl)) (own_w hw 6 rfl) (ty := .int) (by decide) rfl rfl (g := (mkF m 408 #[oR r0, oR b103, oI 2, oD (own_v g0 g1 y01_224 y11_224), oV, oI 2, oI 2, oD (FP.ddiv d1_214 d1_214), oV, s9'_224] [(.int 0), (.ref r0)])) rfl rfl (hb hby d6_408)
    have Fw248 := Fc247.same W248
    have N248 := Fr.snoc X248 N243 g_r0
    have ZZ249 : n0 ≤ h248.size := Nat.le_trans ZZ244 (Nat.le_of_eq W248.size.symm)
    have KK250 : Keep h0 h248 [r0, ri, i0, i1, va] := KK245.wr W248 (Or.inl (List.mem_of_getElem? (i := 0) rfl))
    obtain ⟨fs, hr, hrun, hended, hW, hsame⟩ := X248.leave (v := some (.int 1)) (fun h => by rw [Bd.returns] at h; cases h)
    refine ⟨_, _, pre0 _ (pre191 _ ?_), hrun, hended, _, _, rfl, ?_, ⟨_, rfl⟩, hW, hsame.mono (by decide) (by decide)⟩
    · show own_S p e below T190 m 142 #[oR r0, oR b103, oI 0, oI 0, oI 1, oU, oU, oU, oU, oU] [(.int (cmpValue (FP.dcmp (d1 &&& 0x7fffffffffffffff) (ee &&& 0x7fffffffffffffff)) .l))] _
      refine XS.ifNo X190.here hx rfl (hb hby d6_142) rfl ((if0 _ _).trans (tlt (hs : (0 : Int32) < (cmpValue (FP.dcmp (d1 &&& 0x7fffffffffffffff) (ee &&& 0x7fffffffffffffff)) .l))).2.2.2) ?_
      refine XS.iload X190.here hx rfl (hb hby d6_145) rfl ?_
      refine XS.istoreN X190.here hx rfl (hb hby d6_147) rfl (l' := #[oR r0, oR b103, oI 0, oI 1, oI 1, oU, oU, oU, oU, oU]) rfl ?_
      refine XS.iinc X190.here hx rfl (hb hby d6_148) rfl (l' := #[oR r0, oR b103, oI 0, oI 1, oI 2, oU, oU, oU, oU, oU]) rfl ?_
      show own_S p e below T190 m 151 #[oR r0, oR b103, oI 0, oI 1, oI 2, oU, oU, oU, oU, oU] [] _
      refine XS.goto X190.here hx rfl (pc0 := 151) (pc' := 115) rfl (hb hby d6_151) (by decide) (by decide) ?_
      refine XS.iload X190.here hx rfl (hb hby d6_115) rfl ?_
      refine XS.aloadN X190.here hx rfl (hb hby d6_117) rfl rfl ?_
      show own_S p e below T190 m 118 _ [(.ref r0), (.int 2)] _
      refine st192 _ ?_
      show own_S p e below T192 m 121 _ [(.int 2), (.int 2)] _
      refine XS.icmpYes X192.here hx rfl (pc0 := 121) (pc' := 154) rfl (hb hby d6_121) rfl (flt (by decide : ¬ ((2 : Int32) < (2 : Int32)))).2.1 (by decide) (by decide) ?_
      show own_S p e below T192 m 154 _ [] _
      refine st199 _ ?_
      show own_S p e below T199 m 186 _ [] _
      refine st214 _ ?_
      show own_S p e below T214 m 100 #[oR r0, oR b103, oI 1, oI 1, oD d1, oV, oI 2, oD ee, oV, s9'_214] [] _
      refine st224 _ ?_
      show own_S p e below T224 m 343 #[oR r0, oR b103, oI 2, oI 1, oD d1_214, oV, oI 2, oD (FP.ddiv d1_214 d1_214), oV, s9'_224] [] _
      refine st243 _ ?_
      show own_S p e below T243 m 406 #[oR r0, oR b103, oI 2, oD (own_v g0 g1 y01_224 y11_224), oV, oI 2, oI 2, oD (FP.ddiv d1_214 d1_214), oV, s9'_224] [] _
      refine XS.aloadN X243.here hx rfl (hb hby d6_406) rfl rfl ?_
      refine XS.iconst X243.here hx rfl (hb hby d6_407) ?_
      show own_S p e below T243 m 408 _ [(.int 0), (.ref r0)] _
      refine st248 _ ?_
      show own_S p e below T248 m 411 _ [] _
      refine XS.iconst X248.here hx rfl (hb hby d6_411) ?_
      show own_S p e below T248 m 412 _ [(.int 1)] _
      exact retN X248 hx (t := .boolean) Bd.returns (by simp) (hb hby d6_412) hr
    · show Q6_01 Z r0 co fr er ev pl rh ba ri va i0 i1 e1 e2 f1 f2 ker kev krh kba kri ki kva ke1 ke2 kf1 kf2 wE wF wC d0 d1 ee g0 g1 i00 i01 i10 i11 h0 n0 _ T248.heap _
      rw [e248]
      exact ⟨i1, i0, rfl, N248, KK250, ((((((((F_costs_r0.ext E103).keep P112_0 (ninS nq116 (ninS nq117 (ninS nq119 nin0)))).keep P170_0 (ninS nq116 (ninS nq173 nin0))).keep P199_0 (ninS nq203 (ninS nq205 nin0))).keep P214_0 (ninS nq117 (ninS nq116 (ninS nq173 (ninS nq119 nin0))))).keep P224_0 (ninS nq203 (ninS nq205 (ninS nq117 (ninS nq116 (ninS nq173 (ninS nq119 nin0))))))).keep P243_0 (ninS nq246 nin0)).other W248 (Or.inr (Ne.symm (sn55 hw)))), ((((((((F_free_r0.ext E103).keep P112_0 (ninS nq116 (ninS nq117 (ninS nq119 nin0)))).keep P170_0 (ninS nq116 (ninS nq173 nin0))).keep P199_0 (ninS nq203 (ninS nq205 nin0))).keep P214_0 (ninS nq117 (ninS nq116 (ninS nq173 (ninS nq119 nin0))))).keep P224_0 (ninS nq203 (ninS nq205 (ninS nq117 (ninS nq116 (ninS nq173 (ninS nq119 nin0))))))).keep P243_0 (ninS nq246 nin0)).other W248 (Or.inr (Ne.symm (sn56 hw)))), ((((((Fc122.keep P170_0 (ninS nq116 (ninS nq173 nin0))).keep P199_0 (ninS nq203 (ninS nq205 nin0))).keep P214_0 (ninS nq117 (ninS nq116 (ninS nq173 (ninS nq119 nin0))))).keep P224_0 (ninS nq203 (ninS nq205 (ninS nq117 (ninS nq116 (ninS nq173 (ninS nq119 nin0))))))).keep P243_0 (ninS nq246 nin0)).other W248 (Or.inr (Ne.symm (sn57 hw)))), ((((((Fc123.keep P170_0 (ninS nq116 (ninS nq173 nin0))).keep P199_0 (ninS nq203 (ninS nq205 nin0))).keep P214_0 (ninS nq117 (ninS nq116 (ninS nq173 (ninS nq119 nin0))))).keep P224_0 (ninS nq203 (ninS nq205 (ninS nq117 (ninS nq116 (ninS nq173 (ninS nq119 nin0))))))).keep P243_0 (ninS nq246 nin0)).other W248 (Or.inr (Ne.symm (sn58 hw)))), ((((((((F_place_r0.ext E103).keep P112_0 (ninS nq116 (ninS nq117 (ninS nq119 nin0)))).keep P170_0 (ninS nq116 (ninS nq173 nin0))).keep P199_0 (ninS nq203 (ninS nq205 nin0))).keep P214_0 (ninS nq117 (ninS nq116 (ninS nq173 (ninS nq119 nin0))))).keep P224_0 (ninS nq203 (ninS nq205 (ninS nq117 (ninS nq116 (ninS nq173 (ninS nq119 nin0))))))).keep P243_0 (ninS nq246 nin0)).other W248 (Or.inr (Ne.symm (sn59 hw)))), ((Fc227.keep P243_0 (ninS nq246 nin0)).other W248 (Or.inr (Ne.symm (sn60 hw)))), ((Fc229.keep P243_0 (ninS nq246 nin0)).other W248 (Or.inr (Ne.symm (sn61 hw)))), ((((((Fc121.keep P170_0 (ninS nq116 (ninS nq173 nin0))).keep P199_0 (ninS nq203 (ninS nq205 nin0))).keep P214_0 (ninS nq117 (ninS nq116 (ninS nq173 (ninS nq119 nin0))))).keep P224_0 (ninS nq203 (ninS nq205 (ninS nq117 (ninS nq116 (ninS nq173 (ninS nq119 nin0))))))).keep P243_0 (ninS nq246 nin0)).other W248 (Or.inr (Ne.symm (sn62 hw)))), ((Fc228.keep P243_0 (ninS nq246 nin0)).other W248 (Or.inr (Ne.symm (sn63 hw)))), ((Fc230.keep P243_0 (ninS nq246 nin0)).other W248 (Or.inr (Ne.symm (sn64 hw)))), ((((((((F_columns_r0.ext E103).keep P112_0 (ninS nq116 (ninS nq117 (ninS nq119 nin0)))).keep P170_0 (ninS nq116 (ninS nq173 nin0))).keep P199_0 (ninS nq203 (ninS nq205 nin0))).keep P214_0 (ninS nq117 (ninS nq116 (ninS nq173 (ninS nq119 nin0))))).keep P224_0 (ninS nq203 (ninS nq205 (ninS nq117 (ninS nq116 (ninS nq173 (ninS nq119 nin0))))))).keep P243_0 (ninS nq246 nin0)).other W248 (Or.inr (Ne.symm (sn65 hw)))), ((Fc232.keep P243_0).wr W248), ((P224_8.keep P243_0 (ninS (Ne.symm nq241) nin0)).other W248 (Ne.symm nq205)), (by rw [hE0, hE1]; exact ((P224_3.keep P243_0 (ninS (Ne.symm ne_va_i1) nin0)).other W248 (Ne.symm nq173))), (by rw [hE2, hE3]; exact ((P224_4.keep P243_0 (ninS (Ne.symm ne_va_i0) nin0)).other W248 (Ne.symm nq119))), (by have q := (P243_1.other W248 (Ne.symm nq246)); rw [hW0.2.2.2.2, hW1.2.2.2.2] at q; exact q), ((((Fc212.keep P214_0).keep P224_0).keep P243_0).wr W248), ((((Fc213.keep P214_0).keep P224_0).keep P243_0).wr W248)⟩
  · skip
    obtain ⟨T251, X251, e251, st251⟩ := getF X190 hx hZ hown (host := "") (Or.inl (own_w hw 30 rfl)) Via.refl e190 Fc174 (g := (mkF m 118 #[oR r0, oR b103, oI 0, oI 0, oI 2, oU, oU, oU, oU, oU] [(.ref r0), (.int 2)])) rfl rfl (hb hby d6_118)
    have hOK : own_ok g0 g1 ee d0 d1 0 (4607182418800017408 : UInt64) 0 0 (4607182418800017408 : UInt64) i00 i01 i10 i11 := hH.2 hs
    obtain ⟨hTA, hKA, hAB⟩ := hOK
    have Fc252 := (Fc124.keep P170_0 (ninS nq116 (ninS nq173 nin0)))
    have nq253 : ri ≠ i1 := (ne_exa (Fc129.keep P170_0) (Fc132.keep P170_0) (by decide))
    have Fc254 := (Fc153.keep P170_0 (ninS nq150 (ninS nq253 nin0)))
    have Fc255 := ((Ej103_0.keep P112_0).keep P170_0)
    have Fc256 := ((Ej103_1.keep P112_0).keep P170_0)
    have nq257 : ri ≠ b103 := (Nat.ne_of_lt (Nat.lt_of_lt_of_le E_ri.lt gl103_0))
    obtain ⟨T258, L258, X258, N258, P258_0, P258_1, P258_2, st258⟩ := own_C0 l Z a0 hw r0 b103 ri b103_1 b103_2 i0 i1 k103 kri kc103 ee d0 T170.heap n0 ZZ171 Fc252 Fc180 Fc254 P170_2 (Fc115.keep P170_0) Fc178 (Fc129.keep P170_0) Fc255 Fc256 (Fc118.keep P170_0) (Fc132.keep P170_0) O103 O_ri g_b103 g_ri (Ne.symm nq257) hTA hx hby hml hZ hown hnm X251 e251 N170
    have ZZ259 : n0 ≤ T258.heap.size := Nat.le_trans ZZ171 P258_0.1
    have KK260 : Keep h0 T258.heap [r0, ri, i0, i1, va] := Keep.trans KK172 P258_0 (allS (Or.inr sz_b103) (allS (Or.inl (List.mem_of_getElem? (i := 1) rfl)) all0))
    have Fc261 := ((Fc115.keep P170_0).keep P258_0)
    have nq262 : r0 ≠ b103 := (ne_exa Fc261 (Fc178.keep P258_0) (by decide))
    have Fc263 := ((Fc129.keep P170_0).keep P258_0)
    have nq264 : r0 ≠ ri := (ne_exa Fc261 Fc263 (by decide))
    have Fc265 := (Fc174.keep P258_0 (ninS nq262 (ninS nq264 nin0)))
    have Fc266 := (Fc252.keep P258_0 (ninS nq262 (ninS nq264 nin0)))
    have Fc267 := (P170_2.keep P258_0 (ninS (Ne.symm nq103_0_1) (ninS (Ne.symm nq150) nin0)))
    have Fc268 := (Fc183.keep P258_0 (ninS (Ne.symm nq103_0_2) (ninS (Ne.symm nq151) nin0)))
    have Fc269 := ((P112_1.keep P170_0 (ninS nq108 (ninS ne_i0_i1 nin0))).keep P258_0 (ninS (Ne.symm nq125) (ninS (Ne.symm nq152) nin0)))
    have Fc270 := (P170_1.keep P258_0 (ninS (Ne.symm nq179) (ninS (Ne.symm nq253) nin0)))
    have Fc271 := ((Fc118.keep P170_0).keep P258_0)
    have Fc272 := ((Fc132.keep P170_0).keep P258_0)
    obtain ⟨a1_273, b1_273, c1_273, d1_273, x01_273, x11_273, y01_273, y11_273, s9'_273, T273, L273, X273, N273, P273_0, P273_1, P273_2, P273_3, P273_4, hrA, P273_6, st273⟩ := own_E0 l Z a0 hw r0 b103 ri b103_1 b103_2 i0 i1 k103 kri kc103 ki (0 : Int32) ee d0 d1 (0 : UInt64) (4607182418800017408 : UInt64) (0 : UInt64) (0 : UInt64) (4607182418800017408 : UInt64) T258.heap n0 ZZ259 Fc265 Fc266 P258_1 P258_2 Fc267 Fc268 Fc269 Fc270 Fc261 (Fc178.keep P258_0) Fc263 (Fc255.keep P258_0) (Fc256.keep P258_0) Fc271 Fc272 g_b103_1 g_b103_2 g_i0 g_i1 nq103_1_2 ne_i0_i1 (Ne.symm nq108) (Ne.symm nq167) (Ne.symm nq109) (Ne.symm nq168) hKA hx hby hml hZ hown hnm X258 rfl N258
    have ZZ274 : n0 ≤ T273.heap.size := Nat.le_trans ZZ259 P273_0.1
    have KK275 : Keep h0 T273.heap [r0, ri, i0, i1, va] := Keep.trans KK260 P273_0 (allS (Or.inr sz_b103_1) (allS (Or.inr sz_b103_2) (allS (Or.inl (List.mem_of_getElem? (i := 2) rfl)) (allS (Or.inl (List.mem_of_getElem? (i := 3) rfl)) all0))))
    have hEB := hAB _ _ _ _ _ _ _ _ hrA
    have Fc276 := (Fc265.keep P273_0 (ninS nq116 (ninS nq117 (ninS nq119 (ninS nq173 nin0)))))
    have Fc277 := (Fc266.keep P273_0 (ninS nq116 (ninS nq117 (ninS nq119 (ninS nq173 nin0)))))
    have Fc278 := (P258_1.keep P273_0 (ninS nq103_0_1 (ninS nq103_0_2 (ninS nq125 (ninS nq179 nin0)))))
    have Fc279 := (P258_2.keep P273_0 (ninS nq150 (ninS nq151 (ninS nq152 (ninS nq253 nin0)))))
    have Fc280 := ((Fc178.keep P258_0).keep P273_0)
    have Fc281 := ((Fc255.keep P258_0).keep P273_0)
    have Fc282 := ((Fc256.keep P258_0).keep P273_0)
    obtain ⟨a1_283, b1_283, c1_283, d1_283, x01_283, x11_283, y01_283, y11_283, s9'_283, T283, L283, X283, N283, P283_0, P283_1, P283_2, P283_3, P283_4, hrB, P283_6, P283_7, P283_8, st283⟩ := own_E1 l Z a0 hw r0 b103 ri b103_1 b103_2 i0 i1 k103 kri kc103 ki (0 : Int32) a1_273 b1_273 c1_273 d1_273 x01_273 x11_273 y01_273 y11_273 ee d1 (s9'_273) T273.heap n0 ZZ274 Fc276 Fc277 Fc278 Fc279 P273_1 P273_2 P273_3 P273_4 (Fc261.keep P273_0) Fc280 (Fc263.keep P273_0) Fc281 Fc282 (Fc271.keep P273_0) (Fc272.keep P273_0) g_b103_1 g_b103_2 g_i0 g_i1 nq103_1_2 ne_i0_i1 (Ne.symm nq108) (Ne.symm nq167) (Ne.symm nq109) (Ne.symm nq168) hEB.2.1 O103 O_ri g_b103 g_ri (Ne.symm nq257) hEB.1 P273_6 hx hby hml hZ hown hnm X273 rfl N273
    have ZZ284 : n0 ≤ T283.heap.size := Nat.le_trans ZZ274 P283_0.1
    have KK285 : Keep h0 T283.heap [r0, ri, i0, i1, va] := Keep.trans KK275 P283_0 (allS (Or.inr sz_b103) (allS (Or.inl (List.mem_of_getElem? (i := 1) rfl)) (allS (Or.inr sz_b103_1) (allS (Or.inr sz_b103_2) (allS (Or.inl (List.mem_of_getElem? (i := 2) rfl)) (allS (Or.inl (List.mem_of_getElem? (i := 3) rfl)) all0))))))
    obtain ⟨hE0, hE1, hE2, hE3, hW0, hW1⟩ := hEB.2.2 _ _ _ _ _ _ _ _ hrB
    have Fc286 := (Fc276.keep P283_0 (ninS nq262 (ninS nq264 (ninS nq116 (ninS nq117 (ninS nq119 (ninS nq173 nin0)))))))
    have Fc287 := (Fc277.keep P283_0 (ninS nq262 (ninS nq264 (ninS nq116 (ninS nq117 (ninS nq119 (ninS nq173 nin0)))))))
    have Fc288 := ((((((F_rhs_r0.ext E103).keep P112_0 (ninS nq116 (ninS nq117 (ninS nq119 nin0)))).keep P170_0 (ninS nq116 (ninS nq173 nin0))).keep P258_0 (ninS nq262 (ninS nq264 nin0))).keep P273_0 (ninS nq116 (ninS nq117 (ninS nq119 (ninS nq173 nin0))))).keep P283_0 (ninS nq262 (ninS nq264 (ninS nq116 (ninS nq117 (ninS nq119 (ninS nq173 nin0)))))))
    have Fc289 := ((((((F_values_r0.ext E103).keep P112_0 (ninS nq116 (ninS nq117 (ninS nq119 nin0)))).keep P170_0 (ninS nq116 (ninS nq173 nin0))).keep P258_0 (ninS nq262 (ninS nq264 nin0))).keep P273_0 (ninS nq116 (ninS nq117 (ninS nq119 (ninS nq173 nin0))))).keep P283_0 (ninS nq262 (ninS nq264 (ninS nq116 (ninS nq117 (ninS nq119 (ninS nq173 nin0)))))))
    have Fc290 := (E_rh.keep KK285)
    have Fc291 := ((Fc261.keep P273_0).keep P283_0)
    have nq292 : rh ≠ r0 := (ne_exa Fc290 Fc291 (by decide))
    have Fc293 := ((Fc263.keep P273_0).keep P283_0)
    have nq294 : rh ≠ ri := (ne_exa Fc290 Fc293 (by decide))
    have Fc295 := (V_rh.keep KK285 (ninS nq292 (ninS nq294 (ninS ne_rh_i0 (ninS ne_rh_i1 (ninS ne_rh_va nin0))))))
    have nq296 : va ≠ b103_1 := (Nat.ne_of_lt (Nat.lt_of_lt_of_le E_va.lt gl103_1))
    have nq297 : va ≠ b103_2 := (Nat.ne_of_lt (Nat.lt_of_lt_of_le E_va.lt gl103_2))
    have Fc298 := ((((Fc134.keep P170_0).keep P258_0).keep P273_0).keep P283_0)
    have nq299 : va ≠ b103 := (ne_exa Fc298 (Fc280.keep P283_0) (by decide))
    have nq300 : va ≠ ri := (ne_exa Fc298 Fc293 (by decide))
    have Fc301 := ((((((V_va.ext E103).keep P112_0 (ninS nq296 (ninS nq297 (ninS ne_va_i0 nin0)))).keep P170_0 (ninS nq296 (ninS ne_va_i1 nin0))).keep P258_0 (ninS nq299 (ninS nq300 nin0))).keep P273_0 (ninS nq296 (ninS nq297 (ninS ne_va_i0 (ninS ne_va_i1 nin0))))).keep P283_0 (ninS nq299 (ninS nq300 (ninS nq296 (ninS nq297 (ninS ne_va_i0 (ninS ne_va_i1 nin0)))))))
    obtain ⟨T302, L302, X302, N302, P302_0, P302_1, st302⟩ := own_SV l Z a0 hw r0 b103 ri i0 i1 rh va kri ki krh kva g0 g1 x01_283 x11_283 y01_283 y11_283 (0 : UInt64) (0 : UInt64) d1_273 (FP.ddiv d1_273 d1_273) (s9'_283) T283.heap n0 ZZ284 Fc286 Fc287 Fc288 Fc289 P283_8 P283_3 P283_4 Fc295 Fc301 Fc291 Fc293 Fc298 g_va ne_va_i0 ne_va_i1 ne_rh_va hW0 hW1 P283_6 hx hby hml hZ hown hnm X283 rfl N283
    have ZZ303 : n0 ≤ T302.heap.size := Nat.le_trans ZZ284 P302_0.1
    have KK304 : Keep h0 T302.heap [r0, ri, i0, i1, va] := Keep.trans KK285 P302_0 (allS (Or.inl (List.mem_of_getElem? (i := 4) rfl)) all0)
    have nq305 : r0 ≠ va := (ne_exa (Fc291.keep P302_0) (Fc298.keep P302_0) (by decide))
    have Fc306 := (((((((F_pivotsSinceRefresh_r0.ext E103).keep P112_0 (ninS nq116 (ninS nq117 (ninS nq119 nin0)))).keep P170_0 (ninS nq116 (ninS nq173 nin0))).keep P258_0 (ninS nq262 (ninS nq264 nin0))).keep P273_0 (ninS nq116 (ninS nq117 (ninS nq119 (ninS nq173 nin0))))).keep P283_0 (ninS nq262 (ninS nq264 (ninS nq116 (ninS nq117 (ninS nq119 (ninS nq173 nin0))))))).keep P302_0 (ninS nq305 nin0))
    obtain ⟨T307, h307, X307, e307, W307, st307⟩ := putF X302 hx hZ hown (host := "") (Or.inl (own_w hw 83 rfl)) Via.refl rfl Fc306 (Fc291.keep P302_0) (Or.inl (own_w hw 84 rfl)) (own_w hw 6 rfl) (ty := .int) (by decide) rfl rfl (g := (mkF m 408 #[oR r0, oR b103, oI 2, oD (own_v g0 g1 y01_283 y11_283), oV, oI 2, oI 2, oD (FP.ddiv d1_273 d1_273), oV, s9'_283] [(.int 0), (.ref r0)])) rfl rfl (hb hby d6_408)
    have Fw307 := Fc306.same W307
    have N307 := Fr.snoc X307 N302 g_r0
    have ZZ308 : n0 ≤ h307.size := Nat.le_trans ZZ303 (Nat.le_of_eq W307.size.symm)
    have KK309 : Keep h0 h307 [r0, ri, i0, i1, va] := KK304.wr W307 (Or.inl (List.mem_of_getElem? (i := 0) rfl))
    obtain ⟨fs, hr, hrun, hended, hW, hsame⟩ := X307.leave (v := some (.int 1)) (fun h => by rw [Bd.returns] at h; cases h)
    refine ⟨_, _, pre0 _ (pre191 _ ?_), hrun, hended, _, _, rfl, ?_, ⟨_, rfl⟩, hW, hsame.mono (by decide) (by decide)⟩
    · show own_S p e below T190 m 142 #[oR r0, oR b103, oI 0, oI 0, oI 1, oU, oU, oU, oU, oU] [(.int (cmpValue (FP.dcmp (d1 &&& 0x7fffffffffffffff) (ee &&& 0x7fffffffffffffff)) .l))] _
      refine XS.ifYes X190.here hx rfl (pc0 := 142) (pc' := 148) rfl (hb hby d6_142) rfl ((if0 _ _).trans (flt (hs : ¬ ((0 : Int32) < (cmpValue (FP.dcmp (d1 &&& 0x7fffffffffffffff) (ee &&& 0x7fffffffffffffff)) .l)))).2.2.2) (by decide) (by decide) ?_
      refine XS.iinc X190.here hx rfl (hb hby d6_148) rfl (l' := #[oR r0, oR b103, oI 0, oI 0, oI 2, oU, oU, oU, oU, oU]) rfl ?_
      refine XS.goto X190.here hx rfl (pc0 := 151) (pc' := 115) rfl (hb hby d6_151) (by decide) (by decide) ?_
      refine XS.iload X190.here hx rfl (hb hby d6_115) rfl ?_
      show own_S p e below T190 m 117 _ [(.int 2)] _
      refine XS.aloadN X190.here hx rfl (hb hby d6_117) rfl rfl ?_
      show own_S p e below T190 m 118 _ [(.ref r0), (.int 2)] _
      refine st251 _ ?_
      show own_S p e below T251 m 121 _ [(.int 2), (.int 2)] _
      refine XS.icmpYes X251.here hx rfl (pc0 := 121) (pc' := 154) rfl (hb hby d6_121) rfl (flt (by decide : ¬ ((2 : Int32) < (2 : Int32)))).2.1 (by decide) (by decide) ?_
      show own_S p e below T251 m 154 _ [] _
      refine st258 _ ?_
      show own_S p e below T258 m 186 _ [] _
      refine st273 _ ?_
      show own_S p e below T273 m 100 #[oR r0, oR b103, oI 1, oI 0, oD ee, oV, oI 2, oD d1, oV, s9'_273] [] _
      refine st283 _ ?_
      show own_S p e below T283 m 343 #[oR r0, oR b103, oI 2, oI 1, oD d1_273, oV, oI 2, oD (FP.ddiv d1_273 d1_273), oV, s9'_283] [] _
      refine st302 _ ?_
      show own_S p e below T302 m 406 #[oR r0, oR b103, oI 2, oD (own_v g0 g1 y01_283 y11_283), oV, oI 2, oI 2, oD (FP.ddiv d1_273 d1_273), oV, s9'_283] [] _
      refine XS.aloadN X302.here hx rfl (hb hby d6_406) rfl rfl ?_
      refine XS.iconst X302.here hx rfl (hb hby d6_407) ?_
      show own_S p e below T302 m 408 _ [(.int 0), (.ref r0)] _
      refine st307 _ ?_
      show own_S p e below T307 m 411 _ [] _
      refine XS.iconst X307.here hx rfl (hb hby d6_411) ?_
      show own_S p e below T307 m 412 _ [(.int 1)] _
      exact retN X307 hx (t := .boolean) Bd.returns (by simp) (hb hby d6_412) hr
    · show Q6_01 Z r0 co fr er ev pl rh ba ri va i0 i1 e1 e2 f1 f2 ker kev krh kba kri ki kva ke1 ke2 kf1 kf2 wE wF wC d0 d1 ee g0 g1 i00 i01 i10 i11 h0 n0 _ T307.heap _
      rw [e307]
      exact ⟨i0, i1, rfl, N307, KK309, ((((((((F_costs_r0.ext E103).keep P112_0 (ninS nq116 (ninS nq117 (ninS nq119 nin0)))).keep P170_0 (ninS nq116 (ninS nq173 nin0))).keep P258_0 (ninS nq262 (ninS nq264 nin0))).keep P273_0 (ninS nq116 (ninS nq117 (ninS nq119 (ninS nq173 nin0))))).keep P283_0 (ninS nq262 (ninS nq264 (ninS nq116 (ninS nq117 (ninS nq119 (ninS nq173 nin0))))))).keep P302_0 (ninS nq305 nin0)).other W307 (Or.inr (Ne.symm (sn55 hw)))), ((((((((F_free_r0.ext E103).keep P112_0 (ninS nq116 (ninS nq117 (ninS nq119 nin0)))).keep P170_0 (ninS nq116 (ninS nq173 nin0))).keep P258_0 (ninS nq262 (ninS nq264 nin0))).keep P273_0 (ninS nq116 (ninS nq117 (ninS nq119 (ninS nq173 nin0))))).keep P283_0 (ninS nq262 (ninS nq264 (ninS nq116 (ninS nq117 (ninS nq119 (ninS nq173 nin0))))))).keep P302_0 (ninS nq305 nin0)).other W307 (Or.inr (Ne.symm (sn56 hw)))), ((((((Fc122.keep P170_0 (ninS nq116 (ninS nq173 nin0))).keep P258_0 (ninS nq262 (ninS nq264 nin0))).keep P273_0 (ninS nq116 (ninS nq117 (ninS nq119 (ninS nq173 nin0))))).keep P283_0 (ninS nq262 (ninS nq264 (ninS nq116 (ninS nq117 (ninS nq119 (ninS nq173 nin0))))))).keep P302_0 (ninS nq305 nin0)).other W307 (Or.inr (Ne.symm (sn57 hw)))), ((((((Fc123.keep P170_0 (ninS nq116 (ninS nq173 nin0))).keep P258_0 (ninS nq262 (ninS nq264 nin0))).keep P273_0 (ninS nq116 (ninS nq117 (ninS nq119 (ninS nq173 nin0))))).keep P283_0 (ninS nq262 (ninS nq264 (ninS nq116 (ninS nq117 (ninS nq119 (ninS nq173 nin0))))))).keep P302_0 (ninS nq305 nin0)).other W307 (Or.inr (Ne.symm (sn58 hw)))), ((((((((F_place_r0.ext E103).keep P112_0 (ninS nq116 (ninS nq117 (ninS nq119 nin0)))).keep P170_0 (ninS nq116 (ninS nq173 nin0))).keep P258_0 (ninS nq262 (ninS nq264 nin0))).keep P273_0 (ninS nq116 (ninS nq117 (ninS nq119 (ninS nq173 nin0))))).keep P283_0 (ninS nq262 (ninS nq264 (ninS nq116 (ninS nq117 (ninS nq119 (ninS nq173 nin0))))))).keep P302_0 (ninS nq305 nin0)).other W307 (Or.inr (Ne.symm (sn59 hw)))), ((Fc286.keep P302_0 (ninS nq305 nin0)).other W307 (Or.inr (Ne.symm (sn60 hw)))), ((Fc288.keep P302_0 (ninS nq305 nin0)).other W307 (Or.inr (Ne.symm (sn61 hw)))), ((((((Fc121.keep P170_0 (ninS nq116 (ninS nq173 nin0))).keep P258_0 (ninS nq262 (ninS nq264 nin0))).keep P273_0 (ninS nq116 (ninS nq117 (ninS nq119 (ninS nq173 nin0))))).keep P283_0 (ninS nq262 (ninS nq264 (ninS nq116 (ninS nq117 (ninS nq119 (ninS nq173 nin0))))))).keep P302_0 (ninS nq305 nin0)).other W307 (Or.inr (Ne.symm (sn62 hw)))), ((Fc287.keep P302_0 (ninS nq305 nin0)).other W307 (Or.inr (Ne.symm (sn63 hw)))), ((Fc289.keep P302_0 (ninS nq305 nin0)).other W307 (Or.inr (Ne.symm (sn64 hw)))), ((((((((F_columns_r0.ext E103).keep P112_0 (ninS nq116 (ninS nq117 (ninS nq119 nin0)))).keep P170_0 (ninS nq116 (ninS nq173 nin0))).keep P258_0 (ninS nq262 (ninS nq264 nin0))).keep P273_0 (ninS nq116 (ninS nq117 (ninS nq119 (ninS nq173 nin0))))).keep P283_0 (ninS nq262 (ninS nq264 (ninS nq116 (ninS nq117 (ninS nq119 (ninS nq173 nin0))))))).keep P302_0 (ninS nq305 nin0)).other W307 (Or.inr (Ne.symm (sn65 hw)))), ((Fc291.keep P302_0).wr W307), ((P283_8.keep P302_0 (ninS (Ne.symm nq300) nin0)).other W307 (Ne.symm nq264)), (by rw [hE0, hE1]; exact ((P283_3.keep P302_0 (ninS (Ne.symm ne_va_i0) nin0)).other W307 (Ne.symm nq119))), (by rw [hE2, hE3]; exact ((P283_4.keep P302_0 (ninS (Ne.symm ne_va_i1) nin0)).other W307 (Ne.symm nq173))), (by have q := (P302_1.other W307 (Ne.symm nq305)); rw [hW0.2.2.2.2, hW1.2.2.2.2] at q; exact q), ((((Fc271.keep P273_0).keep P283_0).keep P302_0).wr W307), ((((Fc272.keep P273_0).keep P283_0).keep P302_0).wr W307)⟩
theorem ef6_11 (m : MethodId) (r0 : Addr) : entryFrame m #[(.ref r0)] 10 = mkF m 0 #[oR r0, oU, oU, oU, oU, oU, oU, oU, oU, oU] [] := by first | (simp [entryFrame, mkF, argsToLocals, Value.category]; done) | rfl
def Q6_11 (Z : State) (r0 : Addr) (co : Addr) (fr : Addr) (er : Addr) (ev : Addr) (pl : Addr) (rh : Addr) (ba : Addr) (ri : Addr) (va : Addr) (i0 : Addr) (i1 : Addr) (e1 : Addr) (e2 : Addr) (f1 : Addr) (f2 : Addr) (ker : ClassId) (kev : ClassId) (krh : ClassId) (kba : ClassId) (kri : ClassId) (ki : ClassId) (kva : ClassId) (ke1 : ClassId) (ke2 : ClassId) (kf1 : ClassId) (kf2 : ClassId) (wE : Value) (wF : Value) (wC : Value) (d0 : UInt64) (d1 : UInt64) (ee : UInt64) (g0 : UInt64) (g1 : UInt64) (i00 : UInt64) (i01 : UInt64) (i10 : UInt64) (i11 : UInt64) (h0 : Heap) (n0 : Nat) (v : Option Value) (h : Heap) (L : List Loc) : Prop := ∃ j0 : Addr, ∃ j1 : Addr, v = some (.int 1) ∧ Fr n0 L ∧ (Keep h0 h [r0, ri, i0, i1, va]) ∧ (Fld Z h r0 own_K1 "costs" "[D" (.ref co)) ∧ (Fld Z h r0 own_K1 "free" "[Z" (.ref fr)) ∧ (Fld Z h r0 own_K1 "entryRows" "[[I" (.ref er)) ∧ (Fld Z h r0 own_K1 "entryValues" "[[D" (.ref ev)) ∧ (Fld Z h r0 own_K1 "place" "[I" (.ref pl)) ∧ (Fld Z h r0 own_K1 "rows" "I" (.int 2)) ∧ (Fld Z h r0 own_K1 "rhs" "[D" (.ref rh)) ∧ (Fld Z h r0 own_K1 "basic" "[I" (.ref ba)) ∧ (Fld Z h r0 own_K1 "inverse" "[[D" (.ref ri)) ∧ (Fld Z h r0 own_K1 "values" "[D" (.ref va)) ∧ (Fld Z h r0 own_K1 "columns" "I" wC) ∧ (Exa Z h r0 own_K1) ∧ (Arv Z h ri kri (.array .double) (2 : Int32) [(.ref j0), (.ref j1)] .null) ∧ (Arv Z h j0 ki .double (2 : Int32) [(.double i00), (.double i01)] (.double 0)) ∧ (Arv Z h j1 ki .double (2 : Int32) [(.double i10), (.double i11)] (.double 0)) ∧ (Arv Z h va kva .double (2 : Int32) [(.double 4607182418800017408), (.double 4607182418800017408)] (.double 0)) ∧ (Exa Z h j0 "[D") ∧ (Exa Z h j1 "[D")
set_option maxRecDepth 65536 in
set_option maxHeartbeats 40000000 in
theorem rm6_11 (l : Launch) (Z : State) (a0 : Array Value) (hw : own_HW Z a0) (ws : List Jvm.Cond) (r0 : Addr) (co : Addr) (fr : Addr) (er : Addr) (ev : Addr) (pl : Addr) (rh : Addr) (ba : Addr) (ri : Addr) (va : Addr) (i0 : Addr) (i1 : Addr) (e1 : Addr) (e2 : Addr) (f1 : Addr) (f2 : Addr) (ker : ClassId) (kev : ClassId) (krh : ClassId) (kba : ClassId) (kri : ClassId) (ki : ClassId) (kva : ClassId) (ke1 : ClassId) (ke2 : ClassId) (kf1 : ClassId) (kf2 : ClassId) (wE : Value) (wF : Value) (wC : Value) (d0 : UInt64) (d1 : UInt64) (ee : UInt64) (g0 : UInt64) (g1 : UInt64) (i00 : UInt64) (i01 : UInt64) (i10 : UInt64) (i11 : UInt64) (h0 : Heap) (n0 : Nat) (Z0 : n0 ≤ h0.size) (F_costs_r0 : Fld Z h0 r0 own_K1 "costs" "[D" (.ref co)) (F_free_r0 : Fld Z h0 r0 own_K1 "free" "[Z" (.ref fr)) (F_entryRows_r0 : Fld Z h0 r0 own_K1 "entryRows" "[[I" (.ref er)) (F_entryValues_r0 : Fld Z h0 r0 own_K1 "entryValues" "[[D" (.ref ev)) (F_place_r0 : Fld Z h0 r0 own_K1 "place" "[I" (.ref pl)) (F_rows_r0 : Fld Z h0 r0 own_K1 "rows" "I" (.int 2)) (F_rhs_r0 : Fld Z h0 r0 own_K1 "rhs" "[D" (.ref rh)) (F_basic_r0 : Fld Z h0 r0 own_K1 "basic" "[I" (.ref ba)) (F_inverse_r0 : Fld Z h0 r0 own_K1 "inverse" "[[D" (.ref ri)) (F_values_r0 : Fld Z h0 r0 own_K1 "values" "[D" (.ref va)) (F_columns_r0 : Fld Z h0 r0 own_K1 "columns" "I" wC) (F_pivotsSinceRefresh_r0 : Fld Z h0 r0 own_K1 "pivotsSinceRefresh" "I" (.int 0)) (V_er : Arv Z h0 er ker (.array .int) (16 : Int32) [wE, (.ref e1), (.ref e2)] .null) (V_ev : Arv Z h0 ev kev (.array .double) (16 : Int32) [wF, (.ref f1), (.ref f2)] .null) (V_rh : Arv Z h0 rh krh .double (2 : Int32) [(.double g0), (.double g1)] (.double 0)) (V_ba : Arv Z h0 ba kba .int (2 : Int32) [(.int 2), (.int 1)] (.int 0)) (V_ri : Arv Z h0 ri kri (.array .double) (2 : Int32) [(.ref i0), (.ref i1)] .null) (V_i0 : Arv Z h0 i0 ki .double (2 : Int32) [(.double 0), (.double 0)] (.double 0)) (V_i1 : Arv Z h0 i1 ki .double (2 : Int32) [(.double 0), (.double 0)] (.double 0)) (V_va : Arv Z h0 va kva .double (2 : Int32) [(.double 0), (.double 0)] (.double 0)) (V_e1 : Arv Z h0 e1 ke1 .int (1 : Int32) [(.int 1)] (.int 0)) (V_e2 : Arv Z h0 e2 ke2 .int (2 : Int32) [(.int 1), (.int 0)] (.int 0)) (V_f1 : Arv Z h0 f1 kf1 .double (1 : Int32) [(.double d0)] (.double 0)) (V_f2 : Arv Z h0 f2 kf2 .double (2 : Int32) [(.double ee), (.double d1)] (.double 0)) (E_r0 : Exa Z h0 r0 own_K1) (E_er : Exa Z h0 er "[[I") (E_ev : Exa Z h0 ev "[[D") (E_rh : Exa Z h0 rh "[D") (E_ba : Exa Z h0 ba "[I") (E_ri : Exa Z h0 ri "[[D") (E_i0 : Exa Z h0 i0 "[D") (E_i1 : Exa Z h0 i1 "[D") (E_va : Exa Z h0 va "[D") (E_e1 : Exa Z h0 e1 "[I") (E_e2 : Exa Z h0 e2 "[I") (E_f1 : Exa Z h0 f1 "[D") (E_f2 : Exa Z h0 f2 "[D") (O_ri : OvrA Z kri .double "[D") (g_r0 : n0 ≤ r0) (g_ri : n0 ≤ ri) (g_i0 : n0 ≤ i0) (g_i1 : n0 ≤ i1) (g_va : n0 ≤ va) (ne_i0_i1 : i0 ≠ i1) (ne_f1_i0 : f1 ≠ i0) (ne_f1_i1 : f1 ≠ i1) (ne_f2_i0 : f2 ≠ i0) (ne_f2_i1 : f2 ≠ i1) (ne_va_i0 : va ≠ i0) (ne_va_i1 : va ≠ i1) (ne_rh_i0 : rh ≠ i0) (ne_rh_i1 : rh ≠ i1) (ne_rh_va : rh ≠ va) (hn0 : NoNaN64 d0) (hn1 : NoNaN64 d1) (hne : NoNaN64 ee) (hH : ((0 : Int32) < own_pv ee d1 → own_ok g0 g1 ee d0 d1 0 0 (4607182418800017408 : UInt64) (4607182418800017408 : UInt64) 0 i00 i01 i10 i11) ∧ (¬ ((0 : Int32) < own_pv ee d1) → own_ok g0 g1 d1 0 ee d0 (4607182418800017408 : UInt64) 0 0 (4607182418800017408 : UInt64) i00 i01 i10 i11)) :
    MetFree l (⟨own_K1, "refresh", "()Z"⟩ : MethodName) (head1 (Jvm.Cond.code (⟨own_K1, "refresh", "()Z"⟩ : MethodName) prog_41_method_12_code 10 (some .boolean) :: ws) ({ frames := 1, cells := 3, slots := 6, locals := 40 } : Room)) (fun a U => a = #[(.ref r0)] ∧ Z.Warmed39 U.vm ∧ U.heap = h0) (fun _ _ _ _ _ => True) (fun _ U o U' => ∃ v L, o = .returned v ∧ Q6_11 Z r0 co fr er ev pl rh ba ri va i0 i1 e1 e2 f1 f2 ker kev krh kba kri ki kva ke1 ke2 kf1 kf2 wE wF wC d0 d1 ee g0 g1 i00 i01 i10 i11 h0 n0 v U'.heap L ∧ FrameEnd U o U' L ({ frames := 1, cells := 3, slots := 6, locals := 40 } : Room).cells ({ frames := 1, cells := 3, slots := 6, locals := 40 } : Room).slots) := by
  refine MetFree.of_bodySF (plainFor_of_name pn1) hisR ?_
  intro p e s m args below meth c s₁ Bd hml0 hP hK
  obtain ⟨rfl, hZ, hh⟩ := hP
  have hx := Bd.exec
  have hby := Bd.bytes
  have hml : c.maxLocals = 10 := hml0
  have hown : s.vm.findClass own_K1 = some m.cls := findClass_of_methodNamed Bd.named
  have hnm := (name_of_methodNamed Bd.named Bd.method).1
  have X0 : Stand p l e ({ frames := 1, cells := 3, slots := 6, locals := 40 } : Room) s m #[(.ref r0)] below meth c s₁ [] 0 0 := Stand.of_body Bd
  have e0 : s₁.heap = h0 := by rw [← hh, Bd.state]; rfl
  have N0 := Fr.nil n0
  have pre0 : ∀ t, Steps p.tables e below (s₁.setTop (mkF m 0 #[oR r0, oU, oU, oU, oU, oU, oU, oU, oU, oU] [])) t → Steps p.tables e below (s₁.setTop (entryFrame m #[(.ref r0)] 10)) t := fun t k => castTop (ef6_11 m r0) k
  obtain ⟨T101, X101, e101, st101⟩ := getF X0 hx hZ hown (host := "") (Or.inl (own_w hw 30 rfl)) Via.refl e0 F_rows_r0 (g := (mkF m 1 #[oR r0, oU, oU, oU, oU, oU, oU, oU, oU, oU] [(.ref r0)])) rfl rfl (hb hby d6_1)
  obtain ⟨T102, X102, e102, st102⟩ := getF X101 hx hZ hown (host := "") (Or.inl (own_w hw 30 rfl)) Via.refl e101 F_rows_r0 (g := (mkF m 5 #[oR r0, oU, oU, oU, oU, oU, oU, oU, oU, oU] [(.ref r0), (.int 2)])) rfl rfl (hb hby d6_5)
  obtain ⟨T103, h103, k103, kc103, X103, e103, E103, A103, O103, Ea103, Ai103, st103⟩ := gridM (xs := (List.range 2).map fun j => h0.size + 1 + j) X102 hx hZ hown (C := "[D") (by decide) (ad := "[[D") (by decide) (own_w hw 44 rfl) (own_w hw 24 rfl) (own_w hw 4 rfl) e102 (g := (mkF m 8 #[oR r0, oU, oU, oU, oU, oU, oU, oU, oU, oU] [(.int 2), (.int 2)])) rfl (hb hby d6_8) rfl (by decide) (by decide) (N := 2) (by decide) rfl (cap := 2) (by decide) (by decide) (by decide) rfl rfl (by decide) (by decide)
  obtain ⟨Aj103_0, Ej103_0⟩ : Arr Z h103 (h0.size + 1 + 0) (newA kc103 .double (2 : Int32)) .double ∧ Exa Z h103 (h0.size + 1 + 0) "[D" := Ai103 0 _ rfl
  obtain ⟨Aj103_1, Ej103_1⟩ : Arr Z h103 (h0.size + 1 + 1) (newA kc103 .double (2 : Int32)) .double ∧ Exa Z h103 (h0.size + 1 + 1) "[D" := Ai103 1 _ rfl
  replace A103 : Arv Z h103 h0.size k103 (.array .double) (2 : Int32) [.ref (h0.size + 1 + 0), .ref (h0.size + 1 + 1)] .null := A103
  obtain ⟨b103_2, gj103_1⟩ : ∃ z, z = h0.size + 1 + 1 := ⟨_, rfl⟩
  rw [← gj103_1] at A103 Aj103_1 Ej103_1
  obtain ⟨b103_1, gj103_0⟩ : ∃ z, z = h0.size + 1 + 0 := ⟨_, rfl⟩
  rw [← gj103_0] at A103 Aj103_0 Ej103_0
  obtain ⟨b103, g103⟩ : ∃ z, z = h0.size := ⟨_, rfl⟩
  rw [← g103] at A103 Ea103 st103
  have gl103_0 : h0.size ≤ b103 := by omega
  have g_b103 : n0 ≤ b103 := Nat.le_trans Z0 gl103_0
  have sz_b103 : h0.size ≤ b103 := Nat.le_trans (Keep.refl h0 [r0, ri, i0, i1, va]).1 gl103_0
  have gl103_1 : h0.size ≤ b103_1 := by omega
  have g_b103_1 : n0 ≤ b103_1 := Nat.le_trans Z0 gl103_1
  have sz_b103_1 : h0.size ≤ b103_1 := Nat.le_trans (Keep.refl h0 [r0, ri, i0, i1, va]).1 gl103_1
  have nq103_0_1 : b103 ≠ b103_1 := by omega
  have gl103_2 : h0.size ≤ b103_2 := by omega
  have g_b103_2 : n0 ≤ b103_2 := Nat.le_trans Z0 gl103_2
  have sz_b103_2 : h0.size ≤ b103_2 := Nat.le_trans (Keep.refl h0 [r0, ri, i0, i1, va]).1 gl103_2
  have nq103_0_2 : b103 ≠ b103_2 := by omega
  have nq103_1_2 : b103_1 ≠ b103_2 := by omega
  have ZZ104 : n0 ≤ h103.size := Nat.le_trans Z0 E103.1
  have KK105 : Keep h0 h103 [r0, ri, i0, i1, va] := (Keep.refl h0 [r0, ri, i0, i1, va]).ext E103
  have V_b103_1 : Arv Z h103 b103_1 kc103 .double (2 : Int32) [(.double 0), (.double 0)] (.double 0) := (Arv.new Aj103_0 (by decide)).pad (pad_rep [] (.double 0) 2)
  have V_b103_2 : Arv Z h103 b103_2 kc103 .double (2 : Int32) [(.double 0), (.double 0)] (.double 0) := (Arv.new Aj103_1 (by decide)).pad (pad_rep [] (.double 0) 2)
  have Fc106 := (F_entryRows_r0.ext E103)
  have Fc107 := (F_entryValues_r0.ext E103)
  have nq108 : i0 ≠ b103_2 := (Nat.ne_of_lt (Nat.lt_of_lt_of_le E_i0.lt gl103_2))
  have nq109 : i0 ≠ b103_1 := (Nat.ne_of_lt (Nat.lt_of_lt_of_le E_i0.lt gl103_1))
  have nq110 : f2 ≠ b103_2 := (Nat.ne_of_lt (Nat.lt_of_lt_of_le E_f2.lt gl103_2))
  have nq111 : f2 ≠ b103_1 := (Nat.ne_of_lt (Nat.lt_of_lt_of_le E_f2.lt gl103_1))
  obtain ⟨T112, L112, X112, N112, P112_0, P112_1, P112_2, P112_3, st112⟩ := own_X02 l Z a0 hw r0 b103 b103_1 b103_2 ri i0 i1 er ev ba e1 e2 f1 f2 b103_2 b103_1 k103 kc103 kri ki ker kev kba ke2 kf2 wE wF (.int 1) (1 : Int32) (0 : Int32) ee d1 (0 : UInt64) (0 : UInt64) (0 : UInt64) (0 : UInt64) (0 : UInt64) (0 : UInt64) h103 n0 ZZ104 (F_rows_r0.ext E103) (F_basic_r0.ext E103) Fc106 Fc107 (F_inverse_r0.ext E103) A103 (V_er.ext E103) (V_ev.ext E103) (V_ba.ext E103) (V_ri.ext E103) (V_e2.ext E103) (V_f2.ext E103) (V_i0.ext E103) V_b103_2 V_b103_1 (E_r0.ext E103) Ea103 (E_er.ext E103) (E_ev.ext E103) (E_ba.ext E103) (E_ri.ext E103) (E_e2.ext E103) (E_f2.ext E103) (E_i0.ext E103) Ej103_1 Ej103_0 g_b103_2 g_b103_1 g_i0 nq108 nq109 nq110 nq111 (Ne.symm nq103_1_2) (⟨by decide, by decide⟩) rfl (⟨by decide, by decide⟩) rfl hx hby hml hZ hown hnm X103 e103 N0
  have ZZ113 : n0 ≤ T112.heap.size := Nat.le_trans ZZ104 P112_0.1
  have KK114 : Keep h0 T112.heap [r0, ri, i0, i1, va] := Keep.trans KK105 P112_0 (allS (Or.inr sz_b103_2) (allS (Or.inr sz_b103_1) (allS (Or.inl (List.mem_of_getElem? (i := 2) rfl)) all0)))
  have Fc115 := ((E_r0.ext E103).keep P112_0)
  have nq116 : r0 ≠ b103_2 := (ne_exa Fc115 (Ej103_1.keep P112_0) (by decide))
  have nq117 : r0 ≠ b103_1 := (ne_exa Fc115 (Ej103_0.keep P112_0) (by decide))
  have Fc118 := ((E_i0.ext E103).keep P112_0)
  have nq119 : r0 ≠ i0 := (ne_exa Fc115 Fc118 (by decide))
  have Fc120 := ((F_rows_r0.ext E103).keep P112_0 (ninS nq116 (ninS nq117 (ninS nq119 nin0))))
  have Fc121 := ((F_basic_r0.ext E103).keep P112_0 (ninS nq116 (ninS nq117 (ninS nq119 nin0))))
  have Fc122 := (Fc106.keep P112_0 (ninS nq116 (ninS nq117 (ninS nq119 nin0))))
  have Fc123 := (Fc107.keep P112_0 (ninS nq116 (ninS nq117 (ninS nq119 nin0))))
  have Fc124 := ((F_inverse_r0.ext E103).keep P112_0 (ninS nq116 (ninS nq117 (ninS nq119 nin0))))
  have nq125 : b103 ≠ i0 := (ne_exa (Ea103.keep P112_0) Fc118 (by decide))
  have Fc126 := (A103.keep P112_0 (ninS nq103_0_2 (ninS nq103_0_1 (ninS nq125 nin0))))
  have Fc127 := (E_er.keep KK114)
  have nq128 : er ≠ r0 := (ne_exa Fc127 Fc115 (by decide))
  have Fc129 := ((E_ri.ext E103).keep P112_0)
  have nq130 : er ≠ ri := (ne_exa Fc127 Fc129 (by decide))
  have nq131 : er ≠ i0 := (ne_exa Fc127 Fc118 (by decide))
  have Fc132 := ((E_i1.ext E103).keep P112_0)
  have nq133 : er ≠ i1 := (ne_exa Fc127 Fc132 (by decide))
  have Fc134 := ((E_va.ext E103).keep P112_0)
  have nq135 : er ≠ va := (ne_exa Fc127 Fc134 (by decide))
  have Fc136 := (V_er.keep KK114 (ninS nq128 (ninS nq130 (ninS nq131 (ninS nq133 (ninS nq135 nin0))))))
  have Fc137 := (E_ev.keep KK114)
  have nq138 : ev ≠ r0 := (ne_exa Fc137 Fc115 (by decide))
  have nq139 : ev ≠ b103_2 := (ne_exa Fc137 (Ej103_1.keep P112_0) (by decide))
  have nq140 : ev ≠ b103_1 := (ne_exa Fc137 (Ej103_0.keep P112_0) (by decide))
  have nq141 : ev ≠ i0 := (ne_exa Fc137 Fc118 (by decide))
  have Fc142 := ((V_ev.ext E103).keep P112_0 (ninS nq139 (ninS nq140 (ninS nq141 nin0))))
  have Fc143 := (E_ba.keep KK114)
  have nq144 : ba ≠ r0 := (ne_exa Fc143 Fc115 (by decide))
  have nq145 : ba ≠ ri := (ne_exa Fc143 Fc129 (by decide))
  have nq146 : ba ≠ i0 := (ne_exa Fc143 Fc118 (by decide))
  have nq147 : ba ≠ i1 := (ne_exa Fc143 Fc132 (by decide))
  have nq148 : ba ≠ va := (ne_exa Fc143 Fc134 (by decide))
  have Fc149 := (V_ba.keep KK114 (ninS nq144 (ninS nq145 (ninS nq146 (ninS nq147 (ninS nq148 nin0))))))
  have nq150 : ri ≠ b103_2 := (ne_exa Fc129 (Ej103_1.keep P112_0) (by decide))
  have nq151 : ri ≠ b103_1 := (ne_exa Fc129 (Ej103_0.keep P112_0) (by decide))
  have nq152 : ri ≠ i0 := (ne_exa Fc129 Fc118 (by decide))
  have Fc153 := ((V_ri.ext E103).keep P112_0 (ninS nq150 (ninS nq151 (ninS nq152 nin0))))
  have Fc154 := (E_e1.keep KK114)
  have nq155 : e1 ≠ r0 := (ne_exa Fc154 Fc115 (by decide))
  have nq156 : e1 ≠ ri := (ne_exa Fc154 Fc129 (by decide))
  have nq157 : e1 ≠ i0 := (ne_exa Fc154 Fc118 (by decide))
  have nq158 : e1 ≠ i1 := (ne_exa Fc154 Fc132 (by decide))
  have nq159 : e1 ≠ va := (ne_exa Fc154 Fc134 (by decide))
  have Fc160 := (V_e1.keep KK114 (ninS nq155 (ninS nq156 (ninS nq157 (ninS nq158 (ninS nq159 nin0))))))
  have Fc161 := (E_f1.keep KK114)
  have nq162 : f1 ≠ r0 := (ne_exa Fc161 Fc115 (by decide))
  have nq163 : f1 ≠ ri := (ne_exa Fc161 Fc129 (by decide))
  have nq164 : f1 ≠ b103_2 := (Nat.ne_of_lt (Nat.lt_of_lt_of_le E_f1.lt gl103_2))
  have nq165 : f1 ≠ b103_1 := (Nat.ne_of_lt (Nat.lt_of_lt_of_le E_f1.lt gl103_1))
  have Fc166 := ((V_f1.ext E103).keep P112_0 (ninS nq164 (ninS nq165 (ninS ne_f1_i0 nin0))))
  have nq167 : i1 ≠ b103_2 := (Nat.ne_of_lt (Nat.lt_of_lt_of_le E_i1.lt gl103_2))
  have nq168 : i1 ≠ b103_1 := (Nat.ne_of_lt (Nat.lt_of_lt_of_le E_i1.lt gl103_1))
  have Fc169 := ((V_i1.ext E103).keep P112_0 (ninS nq167 (ninS nq168 (ninS (Ne.symm ne_i0_i1) nin0))))
  obtain ⟨T170, L170, X170, N170, P170_0, P170_1, P170_2, st170⟩ := own_X11 l Z a0 hw r0 b103 b103_1 b103_2 ri i0 i1 er ev ba e1 e2 f1 f2 b103_2 k103 kc103 kri ki ker kev kba ke1 kf1 wE wF (.int 2) (1 : Int32) (2 : Int32) (2 : Int32) d0 ee (0 : UInt64) (0 : UInt64) (0 : UInt64) T112.heap n0 ZZ113 Fc120 Fc121 Fc122 Fc123 Fc124 Fc126 Fc136 Fc142 Fc149 Fc153 Fc160 Fc166 Fc169 P112_2 Fc115 (Ea103.keep P112_0) Fc127 Fc137 Fc143 Fc129 Fc154 Fc161 Fc132 (Ej103_1.keep P112_0) g_b103_2 g_i1 nq167 nq164 (⟨by decide, by decide⟩) rfl hx hby hml hZ hown hnm X112 rfl N112
  have ZZ171 : n0 ≤ T170.heap.size := Nat.le_trans ZZ113 P170_0.1
  have KK172 : Keep h0 T170.heap [r0, ri, i0, i1, va] := Keep.trans KK114 P170_0 (allS (Or.inr sz_b103_2) (allS (Or.inl (List.mem_of_getElem? (i := 3) rfl)) all0))
  have nq173 : r0 ≠ i1 := (ne_exa (Fc115.keep P170_0) (Fc132.keep P170_0) (by decide))
  have Fc174 := (Fc120.keep P170_0 (ninS nq116 (ninS nq173 nin0)))
  obtain ⟨T175, X175, e175, st175⟩ := getF X170 hx hZ hown (host := "") (Or.inl (own_w hw 30 rfl)) Via.refl rfl Fc174 (g := (mkF m 17 #[oR r0, oR b103, oI 2, oI 1, oI 1, oU, oU, oU, oU, oU] [(.ref r0), (.int 2)])) rfl rfl (hb hby d6_17)
  obtain ⟨T176, X176, e176, st176⟩ := getF X175 hx hZ hown (host := "") (Or.inl (own_w hw 30 rfl)) Via.refl e175 Fc174 (g := (mkF m 102 #[oR r0, oR b103, oI 0, oI 1, oI 1, oU, oU, oU, oU, oU] [(.ref r0), (.int 0)])) rfl rfl (hb hby d6_102)
  obtain ⟨T177, X177, e177, st177⟩ := getF X176 hx hZ hown (host := "") (Or.inl (own_w hw 30 rfl)) Via.refl e176 Fc174 (g := (mkF m 118 #[oR r0, oR b103, oI 0, oI 0, oI 1, oU, oU, oU, oU, oU] [(.ref r0), (.int 1)])) rfl rfl (hb hby d6_118)
  have Fc178 := ((Ea103.keep P112_0).keep P170_0)
  have nq179 : b103 ≠ i1 := (ne_exa Fc178 (Fc132.keep P170_0) (by decide))
  have Fc180 := (Fc126.keep P170_0 (ninS nq103_0_2 (ninS nq179 nin0)))
  obtain ⟨cl181, Ar181, qk181, Sz181, Nz181, Hh181, Gg181⟩ := id Fc180
  have hin182 : ¬ ((1 : Int32) < 0 ∨ cl181.slots.size ≤ ((1 : Int32)).toNatClampNeg) := inb_of Sz181 ⟨by decide, by decide⟩
  have hat182 : cl181.slots[((1 : Int32)).toNatClampNeg]? = some (.ref b103_2) := Has.at Hh181 hin182 rfl
  obtain ⟨cl183, Ar183, qk183, Sz183, Nz183, Hh183, Gg183⟩ := id P170_2
  have hin184 : ¬ ((0 : Int32) < 0 ∨ cl183.slots.size ≤ ((0 : Int32)).toNatClampNeg) := inb_of Sz183 ⟨by decide, by decide⟩
  have hat184 : cl183.slots[((0 : Int32)).toNatClampNeg]? = some (.double ee) := Has.at Hh183 hin184 rfl
  obtain ⟨T185, X185, e185, st185⟩ := natS X177 hx hZ hown (own_w hw 75 rfl) (own_w hw 76 rfl) (own_w hw 77 rfl) (own_w hw 78 rfl) (by decide) e177 (W := 0) (fun q => Jvm.Free.Fl.Abs.absD_pays ee q (by decide) (by decide)) (g := (mkF m 130 #[oR r0, oR b103, oI 0, oI 0, oI 1, oU, oU, oU, oU, oU] [(.double ee)])) rfl (by rw [hml]; rfl) (argsL := [(.double ee)]) (rest := []) (lenOf pd1 rfl) rfl (by show 2 * 0 + _ ≤ _; exact Nat.le_of_eq rfl) (hb hby d6_130) (by decide) (by decide) ⟨rfl, hne⟩ rfl
  have hin186 : ¬ ((0 : Int32) < 0 ∨ cl181.slots.size ≤ ((0 : Int32)).toNatClampNeg) := inb_of Sz181 ⟨by decide, by decide⟩
  have hat186 : cl181.slots[((0 : Int32)).toNatClampNeg]? = some (.ref b103_1) := Has.at Hh181 hin186 rfl
  have Fc187 := (P112_3.keep P170_0 (ninS nq103_1_2 (ninS (Ne.symm nq168) nin0)))
  obtain ⟨cl188, Ar188, qk188, Sz188, Nz188, Hh188, Gg188⟩ := id Fc187
  have hin189 : ¬ ((0 : Int32) < 0 ∨ cl188.slots.size ≤ ((0 : Int32)).toNatClampNeg) := inb_of Sz188 ⟨by decide, by decide⟩
  have hat189 : cl188.slots[((0 : Int32)).toNatClampNeg]? = some (.double d1) := Has.at Hh188 hin189 rfl
  obtain ⟨T190, X190, e190, st190⟩ := natS X185 hx hZ hown (own_w hw 75 rfl) (own_w hw 76 rfl) (own_w hw 77 rfl) (own_w hw 78 rfl) (by decide) e185 (W := 2) (fun q => Jvm.Free.Fl.Abs.absD_pays d1 q (by decide) (by decide)) (g := (mkF m 138 #[oR r0, oR b103, oI 0, oI 0, oI 1, oU, oU, oU, oU, oU] [(.double d1), (.double (ee &&& 0x7fffffffffffffff))])) rfl (by rw [hml]; rfl) (argsL := [(.double d1)]) (rest := [(.double (ee &&& 0x7fffffffffffffff))]) (lenOf pd1 rfl) rfl (by show 2 * 0 + _ ≤ _; exact Nat.le_of_eq rfl) (hb hby d6_138) (by decide) (by decide) ⟨rfl, hn1⟩ rfl
  have pre191 : ∀ t, Steps p.tables e below (T190.setTop (mkF m 142 #[oR r0, oR b103, oI 0, oI 0, oI 1, oU, oU, oU, oU, oU] [(.int (cmpValue (FP.dcmp (ee &&& 0x7fffffffffffffff) (d1 &&& 0x7fffffffffffffff)) .l))])) t → Steps p.tables e below (s₁.setTop (mkF m 0 #[oR r0, oU, oU, oU, oU, oU, oU, oU, oU, oU] [])) t := by
    intro t kt
    show own_S p e below s₁ m 0 #[oR r0, oU, oU, oU, oU, oU, oU, oU, oU, oU] [] _
    refine XS.aloadN X0.here hx rfl (hb hby d6_0) rfl rfl ?_
    show own_S p e below s₁ m 1 _ [(.ref r0)] _
    refine st101 _ ?_
    show own_S p e below T101 m 4 _ [(.int 2)] _
    refine XS.aloadN X101.here hx rfl (hb hby d6_4) rfl rfl ?_
    show own_S p e below T101 m 5 _ [(.ref r0), (.int 2)] _
    refine st102 _ ?_
    show own_S p e below T102 m 8 _ [(.int 2), (.int 2)] _
    refine st103 _ ?_
    show own_S p e below T103 m 12 _ [(.ref b103)] _
    refine XS.astoreN X103.here hx rfl (hb hby d6_12) rfl rfl (l' := #[oR r0, oR b103, oU, oU, oU, oU, oU, oU, oU, oU]) rfl ?_
    refine XS.iconst X103.here hx rfl (hb hby d6_13) ?_
    refine XS.istoreN X103.here hx rfl (hb hby d6_14) rfl (l' := #[oR r0, oR b103, oI 0, oU, oU, oU, oU, oU, oU, oU]) rfl ?_
    show own_S p e below T103 m 15 #[oR r0, oR b103, oI 0, oU, oU, oU, oU, oU, oU, oU] [] _
    refine st112 _ ?_
    show own_S p e below T112 m 15 #[oR r0, oR b103, oI 1, oI 2, oI 2, oU, oU, oU, oU, oU] [] _
    refine st170 _ ?_
    show own_S p e below T170 m 15 #[oR r0, oR b103, oI 2, oI 1, oI 1, oU, oU, oU, oU, oU] [] _
    refine XS.iloadN X170.here hx rfl (hb hby d6_15) rfl ?_
    refine XS.aloadN X170.here hx rfl (hb hby d6_16) rfl rfl ?_
    show own_S p e below T170 m 17 _ [(.ref r0), (.int 2)] _
    refine st175 _ ?_
    show own_S p e below T175 m 20 _ [(.int 2), (.int 2)] _
    refine XS.icmpYes X175.here hx rfl (pc0 := 20) (pc' := 98) rfl (hb hby d6_20) rfl (flt (by decide : ¬ ((2 : Int32) < (2 : Int32)))).2.1 (by decide) (by decide) ?_
    refine XS.iconst X175.here hx rfl (hb hby d6_98) ?_
    refine XS.istoreN X175.here hx rfl (hb hby d6_99) rfl (l' := #[oR r0, oR b103, oI 0, oI 1, oI 1, oU, oU, oU, oU, oU]) rfl ?_
    refine XS.iloadN X175.here hx rfl (hb hby d6_100) rfl ?_
    show own_S p e below T175 m 101 _ [(.int 0)] _
    refine XS.aloadN X175.here hx rfl (hb hby d6_101) rfl rfl ?_
    show own_S p e below T175 m 102 _ [(.ref r0), (.int 0)] _
    refine st176 _ ?_
    show own_S p e below T176 m 105 _ [(.int 2), (.int 0)] _
    refine XS.icmpNo X176.here hx rfl (hb hby d6_105) rfl (tlt (by decide : (0 : Int32) < (2 : Int32))).2.1 ?_
    refine XS.iloadN X176.here hx rfl (hb hby d6_108) rfl ?_
    refine XS.istoreN X176.here hx rfl (hb hby d6_109) rfl (l' := #[oR r0, oR b103, oI 0, oI 0, oI 1, oU, oU, oU, oU, oU]) rfl ?_
    refine XS.iloadN X176.here hx rfl (hb hby d6_110) rfl ?_
    show own_S p e below T176 m 111 _ [(.int 0)] _
    refine XS.iconst X176.here hx rfl (hb hby d6_111) ?_
    show own_S p e below T176 m 112 _ [(.int 1), (.int 0)] _
    refine XS.iadd X176.here hx rfl (hb hby d6_112) rfl ?_
    show own_S p e below T176 m 113 _ [(.int ((0 : Int32) + (1 : Int32)))] _
    refine reI (by decide : ((0 : Int32) + (1 : Int32)) = (1 : Int32)) ?_
    show own_S p e below T176 m 113 _ [(.int 1)] _
    refine XS.istore X176.here hx rfl (hb hby d6_113) rfl (l' := #[oR r0, oR b103, oI 0, oI 0, oI 1, oU, oU, oU, oU, oU]) rfl ?_
    refine XS.iload X176.here hx rfl (hb hby d6_115) rfl ?_
    refine XS.aloadN X176.here hx rfl (hb hby d6_117) rfl rfl ?_
    show own_S p e below T176 m 118 #[oR r0, oR b103, oI 0, oI 0, oI 1, oU, oU, oU, oU, oU] [(.ref r0), (.int 1)] _
    refine st177 _ ?_
    show own_S p e below T177 m 121 _ [(.int 2), (.int 1)] _
    refine XS.icmpNo X177.here hx rfl (hb hby d6_121) rfl (tlt (by decide : (1 : Int32) < (2 : Int32))).2.1 ?_
    refine XS.aloadN X177.here hx rfl (hb hby d6_124) rfl rfl ?_
    refine XS.iload X177.here hx rfl (hb hby d6_125) rfl ?_
    show own_S p e below T177 m 127 _ [(.int 1), (.ref b103)] _
    refine X177.aaload hx (j := (1 : Int32)) (v := (.ref b103_2)) (by rw [e177]; exact Ar181.1) (State.isArrayOf_alike hZ.alike Ar181.2.1) rfl Ar181.2.2 hin182 hat182 (g := (mkF m 127 #[oR r0, oR b103, oI 0, oI 0, oI 1, oU, oU, oU, oU, oU] [(.int 1), (.ref b103)])) rfl rfl (hb hby d6_127) _ ?_
    show own_S p e below T177 m 128 _ [(.ref b103_2)] _
    refine XS.iloadN X177.here hx rfl (hb hby d6_128) rfl ?_
    show own_S p e below T177 m 129 _ [(.int 0), (.ref b103_2)] _
    refine X177.daload hx (j := (0 : Int32)) (v := (.double ee)) (by rw [e177]; exact Ar183.1) (State.isArrayOf_alike hZ.alike Ar183.2.1) Ar183.2.2 hin184 hat184 (g := (mkF m 129 #[oR r0, oR b103, oI 0, oI 0, oI 1, oU, oU, oU, oU, oU] [(.int 0), (.ref b103_2)])) rfl rfl (hb hby d6_129) _ ?_
    show own_S p e below T177 m 130 #[oR r0, oR b103, oI 0, oI 0, oI 1, oU, oU, oU, oU, oU] [(.double ee)] _
    refine st185 _ ?_
    show own_S p e below T185 m 133 _ [(.double (ee &&& 0x7fffffffffffffff))] _
    refine XS.aloadN X185.here hx rfl (hb hby d6_133) rfl rfl ?_
    refine XS.iloadN X185.here hx rfl (hb hby d6_134) rfl ?_
    show own_S p e below T185 m 135 _ [(.int 0), (.ref b103), (.double (ee &&& 0x7fffffffffffffff))] _
    refine X185.aaload hx (j := (0 : Int32)) (v := (.ref b103_1)) (by rw [e185]; exact Ar181.1) (State.isArrayOf_alike hZ.alike Ar181.2.1) rfl Ar181.2.2 hin186 hat186 (g := (mkF m 135 #[oR r0, oR b103, oI 0, oI 0, oI 1, oU, oU, oU, oU, oU] [(.int 0), (.ref b103), (.double (ee &&& 0x7fffffffffffffff))])) rfl rfl (hb hby d6_135) _ ?_
    show own_S p e below T185 m 136 _ [(.ref b103_1), (.double (ee &&& 0x7fffffffffffffff))] _
    refine XS.iloadN X185.here hx rfl (hb hby d6_136) rfl ?_
    show own_S p e below T185 m 137 _ [(.int 0), (.ref b103_1), (.double (ee &&& 0x7fffffffffffffff))] _
    refine X185.daload hx (j := (0 : Int32)) (v := (.double d1)) (by rw [e185]; exact Ar188.1) (State.isArrayOf_alike hZ.alike Ar188.2.1) Ar188.2.2 hin189 hat189 (g := (mkF m 137 #[oR r0, oR b103, oI 0, oI 0, oI 1, oU, oU, oU, oU, oU] [(.int 0), (.ref b103_1), (.double (ee &&& 0x7fffffffffffffff))])) rfl rfl (hb hby d6_137) _ ?_
    show own_S p e below T185 m 138 _ [(.double d1), (.double (ee &&& 0x7fffffffffffffff))] _
    refine st190 _ ?_
    show own_S p e below T190 m 141 #[oR r0, oR b103, oI 0, oI 0, oI 1, oU, oU, oU, oU, oU] [(.double (d1 &&& 0x7fffffffffffffff)), (.double (ee &&& 0x7fffffffffffffff))] _
    refine XS.dcmpS X190.here hx rfl (v := (cmpValue (FP.dcmp (ee &&& 0x7fffffffffffffff) (d1 &&& 0x7fffffffffffffff)) .l)) (hb hby d6_141) rfl rfl ?_
    exact kt
  by_cases hs : (0 : Int32) < (cmpValue (FP.dcmp (ee &&& 0x7fffffffffffffff) (d1 &&& 0x7fffffffffffffff)) .l)
  · skip
    obtain ⟨T192, X192, e192, st192⟩ := getF X190 hx hZ hown (host := "") (Or.inl (own_w hw 30 rfl)) Via.refl e190 Fc174 (g := (mkF m 118 #[oR r0, oR b103, oI 0, oI 1, oI 2, oU, oU, oU, oU, oU] [(.ref r0), (.int 2)])) rfl rfl (hb hby d6_118)
    have hOK : own_ok g0 g1 ee d0 d1 0 0 (4607182418800017408 : UInt64) (4607182418800017408 : UInt64) 0 i00 i01 i10 i11 := hH.1 hs
    obtain ⟨hTA, hKA, hAB⟩ := hOK
    have Fc193 := (Fc124.keep P170_0 (ninS nq116 (ninS nq173 nin0)))
    have nq194 : ri ≠ i1 := (ne_exa (Fc129.keep P170_0) (Fc132.keep P170_0) (by decide))
    have Fc195 := (Fc153.keep P170_0 (ninS nq150 (ninS nq194 nin0)))
    have Fc196 := ((Ej103_0.keep P112_0).keep P170_0)
    have Fc197 := ((Ej103_1.keep P112_0).keep P170_0)
    have nq198 : ri ≠ b103 := (Nat.ne_of_lt (Nat.lt_of_lt_of_le E_ri.lt gl103_0))
    obtain ⟨T199, L199, X199, N199, P199_0, P199_1, P199_2, st199⟩ := own_C1 l Z a0 hw r0 b103 ri b103_1 b103_2 i0 i1 k103 kri kc103 ee d0 T170.heap n0 ZZ171 Fc193 Fc180 Fc195 P170_2 (Fc115.keep P170_0) Fc178 (Fc129.keep P170_0) Fc196 Fc197 (Fc118.keep P170_0) (Fc132.keep P170_0) O103 O_ri g_b103 g_ri (Ne.symm nq198) hTA hx hby hml hZ hown hnm X192 e192 N170
    have ZZ200 : n0 ≤ T199.heap.size := Nat.le_trans ZZ171 P199_0.1
    have KK201 : Keep h0 T199.heap [r0, ri, i0, i1, va] := Keep.trans KK172 P199_0 (allS (Or.inr sz_b103) (allS (Or.inl (List.mem_of_getElem? (i := 1) rfl)) all0))
    have Fc202 := ((Fc115.keep P170_0).keep P199_0)
    have nq203 : r0 ≠ b103 := (ne_exa Fc202 (Fc178.keep P199_0) (by decide))
    have Fc204 := ((Fc129.keep P170_0).keep P199_0)
    have nq205 : r0 ≠ ri := (ne_exa Fc202 Fc204 (by decide))
    have Fc206 := (Fc174.keep P199_0 (ninS nq203 (ninS nq205 nin0)))
    have Fc207 := (Fc193.keep P199_0 (ninS nq203 (ninS nq205 nin0)))
    have Fc208 := (P170_2.keep P199_0 (ninS (Ne.symm nq103_0_2) (ninS (Ne.symm nq150) nin0)))
    have Fc209 := (Fc187.keep P199_0 (ninS (Ne.symm nq103_0_1) (ninS (Ne.symm nq151) nin0)))
    have Fc210 := (P170_1.keep P199_0 (ninS (Ne.symm nq179) (ninS (Ne.symm nq194) nin0)))
    have Fc211 := ((P112_1.keep P170_0 (ninS nq108 (ninS ne_i0_i1 nin0))).keep P199_0 (ninS (Ne.symm nq125) (ninS (Ne.symm nq152) nin0)))
    have Fc212 := ((Fc132.keep P170_0).keep P199_0)
    have Fc213 := ((Fc118.keep P170_0).keep P199_0)
    obtain ⟨a1_214, b1_214, c1_214, d1_214, x01_214, x11_214, y01_214, y11_214, s9'_214, T214, L214, X214, N214, P214_0, P214_1, P214_2, P214_3, P214_4, hrA, P214_6, st214⟩ := own_E0 l Z a0 hw r0 b103 ri b103_2 b103_1 i1 i0 k103 kri kc103 ki (1 : Int32) ee d0 d1 (0 : UInt64) (0 : UInt64) (4607182418800017408 : UInt64) (4607182418800017408 : UInt64) (0 : UInt64) T199.heap n0 ZZ200 Fc206 Fc207 P199_1 P199_2 Fc208 Fc209 Fc210 Fc211 Fc202 (Fc178.keep P199_0) Fc204 (Fc197.keep P199_0) (Fc196.keep P199_0) Fc212 Fc213 g_b103_2 g_b103_1 g_i1 g_i0 (Ne.symm nq103_1_2) (Ne.symm ne_i0_i1) (Ne.symm nq167) (Ne.symm nq108) (Ne.symm nq168) (Ne.symm nq109) hKA hx hby hml hZ hown hnm X199 rfl N199
    have ZZ215 : n0 ≤ T214.heap.size := Nat.le_trans ZZ200 P214_0.1
    have KK216 : Keep h0 T214.heap [r0, ri, i0, i1, va] := Keep.trans KK201 P214_0 (allS (Or.inr sz_b103_2) (allS (Or.inr sz_b103_1) (allS (Or.inl (List.mem_of_getElem? (i := 3) rfl)) (allS (Or.inl (List.mem_of_getElem? (i := 2) rfl)) all0))))
    have hEB := hAB _ _ _ _ _ _ _ _ hrA
    have Fc217 := (Fc206.keep P214_0 (ninS nq116 (ninS nq117 (ninS nq173 (ninS nq119 nin0)))))
    have Fc218 := (Fc207.keep P214_0 (ninS nq116 (ninS nq117 (ninS nq173 (ninS nq119 nin0)))))
    have Fc219 := (P199_1.keep P214_0 (ninS nq103_0_2 (ninS nq103_0_1 (ninS nq179 (ninS nq125 nin0)))))
    have Fc220 := (P199_2.keep P214_0 (ninS nq150 (ninS nq151 (ninS nq194 (ninS nq152 nin0)))))
    have Fc221 := ((Fc178.keep P199_0).keep P214_0)
    have Fc222 := ((Fc197.keep P199_0).keep P214_0)
    have Fc223 := ((Fc196.keep P199_0).keep P214_0)
    obtain ⟨a1_224, b1_224, c1_224, d1_224, x01_224, x11_224, y01_224, y11_224, s9'_224, T224, L224, X224, N224, P224_0, P224_1, P224_2, P224_3, P224_4, hrB, P224_6, P224_7, P224_8, st224⟩ := own_E1 l Z a0 hw r0 b103 ri b103_2 b103_1 i1 i0 k103 kri kc103 ki (1 : Int32) a1_214 b1_214 c1_214 d1_214 x01_214 x11_214 y01_214 y11_214 ee d1 (s9'_214) T214.heap n0 ZZ215 Fc217 Fc218 Fc219 Fc220 P214_1 P214_2 P214_3 P214_4 (Fc202.keep P214_0) Fc221 (Fc204.keep P214_0) Fc222 Fc223 (Fc212.keep P214_0) (Fc213.keep P214_0) g_b103_2 g_b103_1 g_i1 g_i0 (Ne.symm nq103_1_2) (Ne.symm ne_i0_i1) (Ne.symm nq167) (Ne.symm nq108) (Ne.symm nq168) (Ne.symm nq109) hEB.2.1 O103 O_ri g_b103 g_ri (Ne.symm nq198) hEB.1 P214_6 hx hby hml hZ hown hnm X214 rfl N214
    have ZZ225 : n0 ≤ T224.heap.size := Nat.le_trans ZZ215 P224_0.1
    have KK226 : Keep h0 T224.heap [r0, ri, i0, i1, va] := Keep.trans KK216 P224_0 (allS (Or.inr sz_b103) (allS (Or.inl (List.mem_of_getElem? (i := 1) rfl)) (allS (Or.inr sz_b103_2) (allS (Or.inr sz_b103_1) (allS (Or.inl (List.mem_of_getElem? (i := 3) rfl)) (allS (Or.inl (List.mem_of_getElem? (i := 2) rfl)) all0))))))
    obtain ⟨hE0, hE1, hE2, hE3, hW0, hW1⟩ := hEB.2.2 _ _ _ _ _ _ _ _ hrB
    have Fc227 := (Fc217.keep P224_0 (ninS nq203 (ninS nq205 (ninS nq116 (ninS nq117 (ninS nq173 (ninS nq119 nin0)))))))
    have Fc228 := (Fc218.keep P224_0 (ninS nq203 (ninS nq205 (ninS nq116 (ninS nq117 (ninS nq173 (ninS nq119 nin0)))))))
    have Fc229 := ((((((F_rhs_r0.ext E103).keep P112_0 (ninS nq116 (ninS nq117 (ninS nq119 nin0)))).keep P170_0 (ninS nq116 (ninS nq173 nin0))).keep P199_0 (ninS nq203 (ninS nq205 nin0))).keep P214_0 (ninS nq116 (ninS nq117 (ninS nq173 (ninS nq119 nin0))))).keep P224_0 (ninS nq203 (ninS nq205 (ninS nq116 (ninS nq117 (ninS nq173 (ninS nq119 nin0)))))))
    have Fc230 := ((((((F_values_r0.ext E103).keep P112_0 (ninS nq116 (ninS nq117 (ninS nq119 nin0)))).keep P170_0 (ninS nq116 (ninS nq173 nin0))).keep P199_0 (ninS nq203 (ninS nq205 nin0))).keep P214_0 (ninS nq116 (ninS nq117 (ninS nq173 (ninS nq119 nin0))))).keep P224_0 (ninS nq203 (ninS nq205 (ninS nq116 (ninS nq117 (ninS nq173 (ninS nq119 nin0)))))))
    have Fc231 := (E_rh.keep KK226)
    have Fc232 := ((Fc202.keep P214_0).keep P224_0)
    have nq233 : rh ≠ r0 := (ne_exa Fc231 Fc232 (by decide))
    have Fc234 := ((Fc204.keep P214_0).keep P224_0)
    have nq235 : rh ≠ ri := (ne_exa Fc231 Fc234 (by decide))
    have Fc236 := (V_rh.keep KK226 (ninS nq233 (ninS nq235 (ninS ne_rh_i0 (ninS ne_rh_i1 (ninS ne_rh_va nin0))))))
    have nq237 : va ≠ b103_2 := (Nat.ne_of_lt (Nat.lt_of_lt_of_le E_va.lt gl103_2))
    have nq238 : va ≠ b103_1 := (Nat.ne_of_lt (Nat.lt_of_lt_of_le E_va.lt gl103_1))
    have Fc239 := ((((Fc134.keep P170_0).keep P199_0).keep P214_0).keep P224_0)
    have nq240 : va ≠ b103 := (ne_exa Fc239 (Fc221.keep P224_0) (by decide))
    have nq241 : va ≠ ri := (ne_exa Fc239 Fc234 (by decide))
    have Fc242 := ((((((V_va.ext E103).keep P112_0 (ninS nq237 (ninS nq238 (ninS ne_va_i0 nin0)))).keep P170_0 (ninS nq237 (ninS ne_va_i1 nin0))).keep P199_0 (ninS nq240 (ninS nq241 nin0))).keep P214_0 (ninS nq237 (ninS nq238 (ninS ne_va_i1 (ninS ne_va_i0 nin0))))).keep P224_0 (ninS nq240 (ninS nq241 (ninS nq237 (ninS nq238 (ninS ne_va_i1 (ninS ne_va_i0 nin0)))))))
    obtain ⟨T243, L243, X243, N243, P243_0, P243_1, st243⟩ := own_SV l Z a0 hw r0 b103 ri i1 i0 rh va kri ki krh kva g0 g1 x01_224 x11_224 y01_224 y11_224 (0 : UInt64) (0 : UInt64) d1_214 (FP.ddiv d1_214 d1_214) (s9'_224) T224.heap n0 ZZ225 Fc227 Fc228 Fc229 Fc230 P224_8 P224_3 P224_4 Fc236 Fc242 Fc232 Fc234 Fc239 g_va ne_va_i1 ne_va_i0 ne_rh_va hW0 hW1 P224_6 hx hby hml hZ hown hnm X224 rfl N224
    have ZZ244 : n0 ≤ T243.heap.size := Nat.le_trans ZZ225 P243_0.1
    have KK245 : Keep h0 T243.heap [r0, ri, i0, i1, va] := Keep.trans KK226 P243_0 (allS (Or.inl (List.mem_of_getElem? (i := 4) rfl)) all0)
    have nq246 : r0 ≠ va := (ne_exa (Fc232.keep P243_0) (Fc239.keep P243_0) (by decide))
    have Fc247 := (((((((F_pivotsSinceRefresh_r0.ext E103).keep P112_0 (ninS nq116 (ninS nq117 (ninS nq119 nin0)))).keep P170_0 (ninS nq116 (ninS nq173 nin0))).keep P199_0 (ninS nq203 (ninS nq205 nin0))).keep P214_0 (ninS nq116 (ninS nq117 (ninS nq173 (ninS nq119 nin0))))).keep P224_0 (ninS nq203 (ninS nq205 (ninS nq116 (ninS nq117 (ninS nq173 (ninS nq119 nin0))))))).keep P243_0 (ninS nq246 nin0))
    obtain ⟨T248, h248, X248, e248, W248, st248⟩ := putF X243 hx hZ hown (host := "") (Or.inl (own_w hw 83 rfl)) Via.refl rfl Fc247 (Fc232.keep P243_0) (Or.inl (own_w hw 84 rfl)) (own_w hw 6 rfl) (ty := .int) (by decide) rfl rfl (g := (mkF m 408 #[oR r0, oR b103, oI 2, oD (own_v g0 g1 y01_224 y11_224), oV, oI 2, oI 2, oD (FP.ddiv d1_214 d1_214), oV, s9'_224] [(.int 0), (.ref r0)])) rfl rfl (hb hby d6_408)
    have Fw248 := Fc247.same W248
    have N248 := Fr.snoc X248 N243 g_r0
    have ZZ249 : n0 ≤ h248.size := Nat.le_trans ZZ244 (Nat.le_of_eq W248.size.symm)
    have KK250 : Keep h0 h248 [r0, ri, i0, i1, va] := KK245.wr W248 (Or.inl (List.mem_of_getElem? (i := 0) rfl))
    obtain ⟨fs, hr, hrun, hended, hW, hsame⟩ := X248.leave (v := some (.int 1)) (fun h => by rw [Bd.returns] at h; cases h)
    refine ⟨_, _, pre0 _ (pre191 _ ?_), hrun, hended, _, _, rfl, ?_, ⟨_, rfl⟩, hW, hsame.mono (by decide) (by decide)⟩
    · show own_S p e below T190 m 142 #[oR r0, oR b103, oI 0, oI 0, oI 1, oU, oU, oU, oU, oU] [(.int (cmpValue (FP.dcmp (ee &&& 0x7fffffffffffffff) (d1 &&& 0x7fffffffffffffff)) .l))] _
      refine XS.ifNo X190.here hx rfl (hb hby d6_142) rfl ((if0 _ _).trans (tlt (hs : (0 : Int32) < (cmpValue (FP.dcmp (ee &&& 0x7fffffffffffffff) (d1 &&& 0x7fffffffffffffff)) .l))).2.2.2) ?_
      refine XS.iload X190.here hx rfl (hb hby d6_145) rfl ?_
      refine XS.istoreN X190.here hx rfl (hb hby d6_147) rfl (l' := #[oR r0, oR b103, oI 0, oI 1, oI 1, oU, oU, oU, oU, oU]) rfl ?_
      refine XS.iinc X190.here hx rfl (hb hby d6_148) rfl (l' := #[oR r0, oR b103, oI 0, oI 1, oI 2, oU, oU, oU, oU, oU]) rfl ?_
      show own_S p e below T190 m 151 #[oR r0, oR b103, oI 0, oI 1, oI 2, oU, oU, oU, oU, oU] [] _
      refine XS.goto X190.here hx rfl (pc0 := 151) (pc' := 115) rfl (hb hby d6_151) (by decide) (by decide) ?_
      refine XS.iload X190.here hx rfl (hb hby d6_115) rfl ?_
      refine XS.aloadN X190.here hx rfl (hb hby d6_117) rfl rfl ?_
      show own_S p e below T190 m 118 _ [(.ref r0), (.int 2)] _
      refine st192 _ ?_
      show own_S p e below T192 m 121 _ [(.int 2), (.int 2)] _
      refine XS.icmpYes X192.here hx rfl (pc0 := 121) (pc' := 154) rfl (hb hby d6_121) rfl (flt (by decide : ¬ ((2 : Int32) < (2 : Int32)))).2.1 (by decide) (by decide) ?_
      show own_S p e below T192 m 154 _ [] _
      refine st199 _ ?_
      show own_S p e below T199 m 186 _ [] _
      refine st214 _ ?_
      show own_S p e below T214 m 100 #[oR r0, oR b103, oI 1, oI 1, oD ee, oV, oI 2, oD d1, oV, s9'_214] [] _
      refine st224 _ ?_
      show own_S p e below T224 m 343 #[oR r0, oR b103, oI 2, oI 1, oD d1_214, oV, oI 2, oD (FP.ddiv d1_214 d1_214), oV, s9'_224] [] _
      refine st243 _ ?_
      show own_S p e below T243 m 406 #[oR r0, oR b103, oI 2, oD (own_v g0 g1 y01_224 y11_224), oV, oI 2, oI 2, oD (FP.ddiv d1_214 d1_214), oV, s9'_224] [] _
      refine XS.aloadN X243.here hx rfl (hb hby d6_406) rfl rfl ?_
      refine XS.iconst X243.here hx rfl (hb hby d6_407) ?_
      show own_S p e below T243 m 408 _ [(.int 0), (.ref r0)] _
      refine st248 _ ?_
      show own_S p e below T248 m 411 _ [] _
      refine XS.iconst X248.here hx rfl (hb hby d6_411) ?_
      show own_S p e below T248 m 412 _ [(.int 1)] _
      exact retN X248 hx (t := .boolean) Bd.returns (by simp) (hb hby d6_412) hr
    · show Q6_11 Z r0 co fr er ev pl rh ba ri va i0 i1 e1 e2 f1 f2 ker kev krh kba kri ki kva ke1 ke2 kf1 kf2 wE wF wC d0 d1 ee g0 g1 i00 i01 i10 i11 h0 n0 _ T248.heap _
      rw [e248]
      exact ⟨i1, i0, rfl, N248, KK250, ((((((((F_costs_r0.ext E103).keep P112_0 (ninS nq116 (ninS nq117 (ninS nq119 nin0)))).keep P170_0 (ninS nq116 (ninS nq173 nin0))).keep P199_0 (ninS nq203 (ninS nq205 nin0))).keep P214_0 (ninS nq116 (ninS nq117 (ninS nq173 (ninS nq119 nin0))))).keep P224_0 (ninS nq203 (ninS nq205 (ninS nq116 (ninS nq117 (ninS nq173 (ninS nq119 nin0))))))).keep P243_0 (ninS nq246 nin0)).other W248 (Or.inr (Ne.symm (sn55 hw)))), ((((((((F_free_r0.ext E103).keep P112_0 (ninS nq116 (ninS nq117 (ninS nq119 nin0)))).keep P170_0 (ninS nq116 (ninS nq173 nin0))).keep P199_0 (ninS nq203 (ninS nq205 nin0))).keep P214_0 (ninS nq116 (ninS nq117 (ninS nq173 (ninS nq119 nin0))))).keep P224_0 (ninS nq203 (ninS nq205 (ninS nq116 (ninS nq117 (ninS nq173 (ninS nq119 nin0))))))).keep P243_0 (ninS nq246 nin0)).other W248 (Or.inr (Ne.symm (sn56 hw)))), ((((((Fc122.keep P170_0 (ninS nq116 (ninS nq173 nin0))).keep P199_0 (ninS nq203 (ninS nq205 nin0))).keep P214_0 (ninS nq116 (ninS nq117 (ninS nq173 (ninS nq119 nin0))))).keep P224_0 (ninS nq203 (ninS nq205 (ninS nq116 (ninS nq117 (ninS nq173 (ninS nq119 nin0))))))).keep P243_0 (ninS nq246 nin0)).other W248 (Or.inr (Ne.symm (sn57 hw)))), ((((((Fc123.keep P170_0 (ninS nq116 (ninS nq173 nin0))).keep P199_0 (ninS nq203 (ninS nq205 nin0))).keep P214_0 (ninS nq116 (ninS nq117 (ninS nq173 (ninS nq119 nin0))))).keep P224_0 (ninS nq203 (ninS nq205 (ninS nq116 (ninS nq117 (ninS nq173 (ninS nq119 nin0))))))).keep P243_0 (ninS nq246 nin0)).other W248 (Or.inr (Ne.symm (sn58 hw)))), ((((((((F_place_r0.ext E103).keep P112_0 (ninS nq116 (ninS nq117 (ninS nq119 nin0)))).keep P170_0 (ninS nq116 (ninS nq173 nin0))).keep P199_0 (ninS nq203 (ninS nq205 nin0))).keep P214_0 (ninS nq116 (ninS nq117 (ninS nq173 (ninS nq119 nin0))))).keep P224_0 (ninS nq203 (ninS nq205 (ninS nq116 (ninS nq117 (ninS nq173 (ninS nq119 nin0))))))).keep P243_0 (ninS nq246 nin0)).other W248 (Or.inr (Ne.symm (sn59 hw)))), ((Fc227.keep P243_0 (ninS nq246 nin0)).other W248 (Or.inr (Ne.symm (sn60 hw)))), ((Fc229.keep P243_0 (ninS nq246 nin0)).other W248 (Or.inr (Ne.symm (sn61 hw)))), ((((((Fc121.keep P170_0 (ninS nq116 (ninS nq173 nin0))).keep P199_0 (ninS nq203 (ninS nq205 nin0))).keep P214_0 (ninS nq116 (ninS nq117 (ninS nq173 (ninS nq119 nin0))))).keep P224_0 (ninS nq203 (ninS nq205 (ninS nq116 (ninS nq117 (ninS nq173 (ninS nq119 nin0))))))).keep P243_0 (ninS nq246 nin0)).other W248 (Or.inr (Ne.symm (sn62 hw)))), ((Fc228.keep P243_0 (ninS nq246 nin0)).other W248 (Or.inr (Ne.symm (sn63 hw)))), ((Fc230.keep P243_0 (ninS nq246 nin0)).other W248 (Or.inr (Ne.symm (sn64 hw)))), ((((((((F_columns_r0.ext E103).keep P112_0 (ninS nq116 (ninS nq117 (ninS nq119 nin0)))).keep P170_0 (ninS nq116 (ninS nq173 nin0))).keep P199_0 (ninS nq203 (ninS nq205 nin0))).keep P214_0 (ninS nq116 (ninS nq117 (ninS nq173 (ninS nq119 nin0))))).keep P224_0 (ninS nq203 (ninS nq205 (ninS nq116 (ninS nq117 (ninS nq173 (ninS nq119 nin0))))))).keep P243_0 (ninS nq246 nin0)).other W248 (Or.inr (Ne.symm (sn65 hw)))), ((Fc232.keep P243_0).wr W248), ((P224_8.keep P243_0 (ninS (Ne.symm nq241) nin0)).other W248 (Ne.symm nq205)), (by rw [hE0, hE1]; exact ((P224_3.keep P243_0 (ninS (Ne.symm ne_va_i1) nin0)).other W248 (Ne.symm nq173))), (by rw [hE2, hE3]; exact ((P224_4.keep P243_0 (ninS (Ne.symm ne_va_i0) nin0)).other W248 (Ne.symm nq119))), (by have q := (P243_1.other W248 (Ne.symm nq246)); rw [hW0.2.2.2.2, hW1.2.2.2.2] at q; exact q), ((((Fc212.keep P214_0).keep P224_0).keep P243_0).wr W248), ((((Fc213.keep P214_0).keep P224_0).keep P243_0).wr W248)⟩
  · skip
    obtain ⟨T251, X251, e251, st251⟩ := getF X190 hx hZ hown (host := "") (Or.inl (own_w hw 30 rfl)) Via.refl e190 Fc174 (g := (mkF m 118 #[oR r0, oR b103, oI 0, oI 0, oI 2, oU, oU, oU, oU, oU] [(.ref r0), (.int 2)])) rfl rfl (hb hby d6_118)
    have hOK : own_ok g0 g1 d1 0 ee d0 (4607182418800017408 : UInt64) 0 0 (4607182418800017408 : UInt64) i00 i01 i10 i11 := hH.2 hs
    obtain ⟨hTA, hKA, hAB⟩ := hOK
    have Fc252 := (Fc124.keep P170_0 (ninS nq116 (ninS nq173 nin0)))
    have nq253 : ri ≠ i1 := (ne_exa (Fc129.keep P170_0) (Fc132.keep P170_0) (by decide))
    have Fc254 := (Fc153.keep P170_0 (ninS nq150 (ninS nq253 nin0)))
    have Fc255 := ((Ej103_0.keep P112_0).keep P170_0)
    have Fc256 := ((Ej103_1.keep P112_0).keep P170_0)
    have nq257 : ri ≠ b103 := (Nat.ne_of_lt (Nat.lt_of_lt_of_le E_ri.lt gl103_0))
    obtain ⟨T258, L258, X258, N258, P258_0, P258_1, P258_2, st258⟩ := own_C0 l Z a0 hw r0 b103 ri b103_1 b103_2 i0 i1 k103 kri kc103 d1 (0 : UInt64) T170.heap n0 ZZ171 Fc252 Fc180 Fc254 Fc187 (Fc115.keep P170_0) Fc178 (Fc129.keep P170_0) Fc255 Fc256 (Fc118.keep P170_0) (Fc132.keep P170_0) O103 O_ri g_b103 g_ri (Ne.symm nq257) hTA hx hby hml hZ hown hnm X251 e251 N170
    have ZZ259 : n0 ≤ T258.heap.size := Nat.le_trans ZZ171 P258_0.1
    have KK260 : Keep h0 T258.heap [r0, ri, i0, i1, va] := Keep.trans KK172 P258_0 (allS (Or.inr sz_b103) (allS (Or.inl (List.mem_of_getElem? (i := 1) rfl)) all0))
    have Fc261 := ((Fc115.keep P170_0).keep P258_0)
    have nq262 : r0 ≠ b103 := (ne_exa Fc261 (Fc178.keep P258_0) (by decide))
    have Fc263 := ((Fc129.keep P170_0).keep P258_0)
    have nq264 : r0 ≠ ri := (ne_exa Fc261 Fc263 (by decide))
    have Fc265 := (Fc174.keep P258_0 (ninS nq262 (ninS nq264 nin0)))
    have Fc266 := (Fc252.keep P258_0 (ninS nq262 (ninS nq264 nin0)))
    have Fc267 := (Fc187.keep P258_0 (ninS (Ne.symm nq103_0_1) (ninS (Ne.symm nq151) nin0)))
    have Fc268 := (P170_2.keep P258_0 (ninS (Ne.symm nq103_0_2) (ninS (Ne.symm nq150) nin0)))
    have Fc269 := ((P112_1.keep P170_0 (ninS nq108 (ninS ne_i0_i1 nin0))).keep P258_0 (ninS (Ne.symm nq125) (ninS (Ne.symm nq152) nin0)))
    have Fc270 := (P170_1.keep P258_0 (ninS (Ne.symm nq179) (ninS (Ne.symm nq253) nin0)))
    have Fc271 := ((Fc118.keep P170_0).keep P258_0)
    have Fc272 := ((Fc132.keep P170_0).keep P258_0)
    obtain ⟨a1_273, b1_273, c1_273, d1_273, x01_273, x11_273, y01_273, y11_273, s9'_273, T273, L273, X273, N273, P273_0, P273_1, P273_2, P273_3, P273_4, hrA, P273_6, st273⟩ := own_E0 l Z a0 hw r0 b103 ri b103_1 b103_2 i0 i1 k103 kri kc103 ki (0 : Int32) d1 (0 : UInt64) ee d0 (4607182418800017408 : UInt64) (0 : UInt64) (0 : UInt64) (4607182418800017408 : UInt64) T258.heap n0 ZZ259 Fc265 Fc266 P258_1 P258_2 Fc267 Fc268 Fc269 Fc270 Fc261 (Fc178.keep P258_0) Fc263 (Fc255.keep P258_0) (Fc256.keep P258_0) Fc271 Fc272 g_b103_1 g_b103_2 g_i0 g_i1 nq103_1_2 ne_i0_i1 (Ne.symm nq109) (Ne.symm nq168) (Ne.symm nq108) (Ne.symm nq167) hKA hx hby hml hZ hown hnm X258 rfl N258
    have ZZ274 : n0 ≤ T273.heap.size := Nat.le_trans ZZ259 P273_0.1
    have KK275 : Keep h0 T273.heap [r0, ri, i0, i1, va] := Keep.trans KK260 P273_0 (allS (Or.inr sz_b103_1) (allS (Or.inr sz_b103_2) (allS (Or.inl (List.mem_of_getElem? (i := 2) rfl)) (allS (Or.inl (List.mem_of_getElem? (i := 3) rfl)) all0))))
    have hEB := hAB _ _ _ _ _ _ _ _ hrA
    have Fc276 := (Fc265.keep P273_0 (ninS nq117 (ninS nq116 (ninS nq119 (ninS nq173 nin0)))))
    have Fc277 := (Fc266.keep P273_0 (ninS nq117 (ninS nq116 (ninS nq119 (ninS nq173 nin0)))))
    have Fc278 := (P258_1.keep P273_0 (ninS nq103_0_1 (ninS nq103_0_2 (ninS nq125 (ninS nq179 nin0)))))
    have Fc279 := (P258_2.keep P273_0 (ninS nq151 (ninS nq150 (ninS nq152 (ninS nq253 nin0)))))
    have Fc280 := ((Fc178.keep P258_0).keep P273_0)
    have Fc281 := ((Fc255.keep P258_0).keep P273_0)
    have Fc282 := ((Fc256.keep P258_0).keep P273_0)
    obtain ⟨a1_283, b1_283, c1_283, d1_283, x01_283, x11_283, y01_283, y11_283, s9'_283, T283, L283, X283, N283, P283_0, P283_1, P283_2, P283_3, P283_4, hrB, P283_6, P283_7, P283_8, st283⟩ := own_E1 l Z a0 hw r0 b103 ri b103_1 b103_2 i0 i1 k103 kri kc103 ki (0 : Int32) a1_273 b1_273 c1_273 d1_273 x01_273 x11_273 y01_273 y11_273 d1 ee (s9'_273) T273.heap n0 ZZ274 Fc276 Fc277 Fc278 Fc279 P273_1 P273_2 P273_3 P273_4 (Fc261.keep P273_0) Fc280 (Fc263.keep P273_0) Fc281 Fc282 (Fc271.keep P273_0) (Fc272.keep P273_0) g_b103_1 g_b103_2 g_i0 g_i1 nq103_1_2 ne_i0_i1 (Ne.symm nq109) (Ne.symm nq168) (Ne.symm nq108) (Ne.symm nq167) hEB.2.1 O103 O_ri g_b103 g_ri (Ne.symm nq257) hEB.1 P273_6 hx hby hml hZ hown hnm X273 rfl N273
    have ZZ284 : n0 ≤ T283.heap.size := Nat.le_trans ZZ274 P283_0.1
    have KK285 : Keep h0 T283.heap [r0, ri, i0, i1, va] := Keep.trans KK275 P283_0 (allS (Or.inr sz_b103) (allS (Or.inl (List.mem_of_getElem? (i := 1) rfl)) (allS (Or.inr sz_b103_1) (allS (Or.inr sz_b103_2) (allS (Or.inl (List.mem_of_getElem? (i := 2) rfl)) (allS (Or.inl (List.mem_of_getElem? (i := 3) rfl)) all0))))))
    obtain ⟨hE0, hE1, hE2, hE3, hW0, hW1⟩ := hEB.2.2 _ _ _ _ _ _ _ _ hrB
    have Fc286 := (Fc276.keep P283_0 (ninS nq262 (ninS nq264 (ninS nq117 (ninS nq116 (ninS nq119 (ninS nq173 nin0)))))))
    have Fc287 := (Fc277.keep P283_0 (ninS nq262 (ninS nq264 (ninS nq117 (ninS nq116 (ninS nq119 (ninS nq173 nin0)))))))
    have Fc288 := ((((((F_rhs_r0.ext E103).keep P112_0 (ninS nq116 (ninS nq117 (ninS nq119 nin0)))).keep P170_0 (ninS nq116 (ninS nq173 nin0))).keep P258_0 (ninS nq262 (ninS nq264 nin0))).keep P273_0 (ninS nq117 (ninS nq116 (ninS nq119 (ninS nq173 nin0))))).keep P283_0 (ninS nq262 (ninS nq264 (ninS nq117 (ninS nq116 (ninS nq119 (ninS nq173 nin0)))))))
    have Fc289 := ((((((F_values_r0.ext E103).keep P112_0 (ninS nq116 (ninS nq117 (ninS nq119 nin0)))).keep P170_0 (ninS nq116 (ninS nq173 nin0))).keep P258_0 (ninS nq262 (ninS nq264 nin0))).keep P273_0 (ninS nq117 (ninS nq116 (ninS nq119 (ninS nq173 nin0))))).keep P283_0 (ninS nq262 (ninS nq264 (ninS nq117 (ninS nq116 (ninS nq119 (ninS nq173 nin0)))))))
    have Fc290 := (E_rh.keep KK285)
    have Fc291 := ((Fc261.keep P273_0).keep P283_0)
    have nq292 : rh ≠ r0 := (ne_exa Fc290 Fc291 (by decide))
    have Fc293 := ((Fc263.keep P273_0).keep P283_0)
    have nq294 : rh ≠ ri := (ne_exa Fc290 Fc293 (by decide))
    have Fc295 := (V_rh.keep KK285 (ninS nq292 (ninS nq294 (ninS ne_rh_i0 (ninS ne_rh_i1 (ninS ne_rh_va nin0))))))
    have nq296 : va ≠ b103_2 := (Nat.ne_of_lt (Nat.lt_of_lt_of_le E_va.lt gl103_2))
    have nq297 : va ≠ b103_1 := (Nat.ne_of_lt (Nat.lt_of_lt_of_le E_va.lt gl103_1))
    have Fc298 := ((((Fc134.keep P170_0).keep P258_0).keep P273_0).keep P283_0)
    have nq299 : va ≠ b103 := (ne_exa Fc298 (Fc280.keep P283_0) (by decide))
    have nq300 : va ≠ ri := (ne_exa Fc298 Fc293 (by decide))
    have Fc301 := ((((((V_va.ext E103).keep P112_0 (ninS nq296 (ninS nq297 (ninS ne_va_i0 nin0)))).keep P170_0 (ninS nq296 (ninS ne_va_i1 nin0))).keep P258_0 (ninS nq299 (ninS nq300 nin0))).keep P273_0 (ninS nq297 (ninS nq296 (ninS ne_va_i0 (ninS ne_va_i1 nin0))))).keep P283_0 (ninS nq299 (ninS nq300 (ninS nq297 (ninS nq296 (ninS ne_va_i0 (ninS ne_va_i1 nin0)))))))
    obtain ⟨T302, L302, X302, N302, P302_0, P302_1, st302⟩ := own_SV l Z a0 hw r0 b103 ri i0 i1 rh va kri ki krh kva g0 g1 x01_283 x11_283 y01_283 y11_283 (0 : UInt64) (0 : UInt64) d1_273 (FP.ddiv d1_273 d1_273) (s9'_283) T283.heap n0 ZZ284 Fc286 Fc287 Fc288 Fc289 P283_8 P283_3 P283_4 Fc295 Fc301 Fc291 Fc293 Fc298 g_va ne_va_i0 ne_va_i1 ne_rh_va hW0 hW1 P283_6 hx hby hml hZ hown hnm X283 rfl N283
    have ZZ303 : n0 ≤ T302.heap.size := Nat.le_trans ZZ284 P302_0.1
    have KK304 : Keep h0 T302.heap [r0, ri, i0, i1, va] := Keep.trans KK285 P302_0 (allS (Or.inl (List.mem_of_getElem? (i := 4) rfl)) all0)
    have nq305 : r0 ≠ va := (ne_exa (Fc291.keep P302_0) (Fc298.keep P302_0) (by decide))
    have Fc306 := (((((((F_pivotsSinceRefresh_r0.ext E103).keep P112_0 (ninS nq116 (ninS nq117 (ninS nq119 nin0)))).keep P170_0 (ninS nq116 (ninS nq173 nin0))).keep P258_0 (ninS nq262 (ninS nq264 nin0))).keep P273_0 (ninS nq117 (ninS nq116 (ninS nq119 (ninS nq173 nin0))))).keep P283_0 (ninS nq262 (ninS nq264 (ninS nq117 (ninS nq116 (ninS nq119 (ninS nq173 nin0))))))).keep P302_0 (ninS nq305 nin0))
    obtain ⟨T307, h307, X307, e307, W307, st307⟩ := putF X302 hx hZ hown (host := "") (Or.inl (own_w hw 83 rfl)) Via.refl rfl Fc306 (Fc291.keep P302_0) (Or.inl (own_w hw 84 rfl)) (own_w hw 6 rfl) (ty := .int) (by decide) rfl rfl (g := (mkF m 408 #[oR r0, oR b103, oI 2, oD (own_v g0 g1 y01_283 y11_283), oV, oI 2, oI 2, oD (FP.ddiv d1_273 d1_273), oV, s9'_283] [(.int 0), (.ref r0)])) rfl rfl (hb hby d6_408)
    have Fw307 := Fc306.same W307
    have N307 := Fr.snoc X307 N302 g_r0
    have ZZ308 : n0 ≤ h307.size := Nat.le_trans ZZ303 (Nat.le_of_eq W307.size.symm)
    have KK309 : Keep h0 h307 [r0, ri, i0, i1, va] := KK304.wr W307 (Or.inl (List.mem_of_getElem? (i := 0) rfl))
    obtain ⟨fs, hr, hrun, hended, hW, hsame⟩ := X307.leave (v := some (.int 1)) (fun h => by rw [Bd.returns] at h; cases h)
    refine ⟨_, _, pre0 _ (pre191 _ ?_), hrun, hended, _, _, rfl, ?_, ⟨_, rfl⟩, hW, hsame.mono (by decide) (by decide)⟩
    · show own_S p e below T190 m 142 #[oR r0, oR b103, oI 0, oI 0, oI 1, oU, oU, oU, oU, oU] [(.int (cmpValue (FP.dcmp (ee &&& 0x7fffffffffffffff) (d1 &&& 0x7fffffffffffffff)) .l))] _
      refine XS.ifYes X190.here hx rfl (pc0 := 142) (pc' := 148) rfl (hb hby d6_142) rfl ((if0 _ _).trans (flt (hs : ¬ ((0 : Int32) < (cmpValue (FP.dcmp (ee &&& 0x7fffffffffffffff) (d1 &&& 0x7fffffffffffffff)) .l)))).2.2.2) (by decide) (by decide) ?_
      refine XS.iinc X190.here hx rfl (hb hby d6_148) rfl (l' := #[oR r0, oR b103, oI 0, oI 0, oI 2, oU, oU, oU, oU, oU]) rfl ?_
      refine XS.goto X190.here hx rfl (pc0 := 151) (pc' := 115) rfl (hb hby d6_151) (by decide) (by decide) ?_
      refine XS.iload X190.here hx rfl (hb hby d6_115) rfl ?_
      show own_S p e below T190 m 117 _ [(.int 2)] _
      refine XS.aloadN X190.here hx rfl (hb hby d6_117) rfl rfl ?_
      show own_S p e below T190 m 118 _ [(.ref r0), (.int 2)] _
      refine st251 _ ?_
      show own_S p e below T251 m 121 _ [(.int 2), (.int 2)] _
      refine XS.icmpYes X251.here hx rfl (pc0 := 121) (pc' := 154) rfl (hb hby d6_121) rfl (flt (by decide : ¬ ((2 : Int32) < (2 : Int32)))).2.1 (by decide) (by decide) ?_
      show own_S p e below T251 m 154 _ [] _
      refine st258 _ ?_
      show own_S p e below T258 m 186 _ [] _
      refine st273 _ ?_
      show own_S p e below T273 m 100 #[oR r0, oR b103, oI 1, oI 0, oD d1, oV, oI 2, oD ee, oV, s9'_273] [] _
      refine st283 _ ?_
      show own_S p e below T283 m 343 #[oR r0, oR b103, oI 2, oI 1, oD d1_273, oV, oI 2, oD (FP.ddiv d1_273 d1_273), oV, s9'_283] [] _
      refine st302 _ ?_
      show own_S p e below T302 m 406 #[oR r0, oR b103, oI 2, oD (own_v g0 g1 y01_283 y11_283), oV, oI 2, oI 2, oD (FP.ddiv d1_273 d1_273), oV, s9'_283] [] _
      refine XS.aloadN X302.here hx rfl (hb hby d6_406) rfl rfl ?_
      refine XS.iconst X302.here hx rfl (hb hby d6_407) ?_
      show own_S p e below T302 m 408 _ [(.int 0), (.ref r0)] _
      refine st307 _ ?_
      show own_S p e below T307 m 411 _ [] _
      refine XS.iconst X307.here hx rfl (hb hby d6_411) ?_
      show own_S p e below T307 m 412 _ [(.int 1)] _
      exact retN X307 hx (t := .boolean) Bd.returns (by simp) (hb hby d6_412) hr
    · show Q6_11 Z r0 co fr er ev pl rh ba ri va i0 i1 e1 e2 f1 f2 ker kev krh kba kri ki kva ke1 ke2 kf1 kf2 wE wF wC d0 d1 ee g0 g1 i00 i01 i10 i11 h0 n0 _ T307.heap _
      rw [e307]
      exact ⟨i0, i1, rfl, N307, KK309, ((((((((F_costs_r0.ext E103).keep P112_0 (ninS nq116 (ninS nq117 (ninS nq119 nin0)))).keep P170_0 (ninS nq116 (ninS nq173 nin0))).keep P258_0 (ninS nq262 (ninS nq264 nin0))).keep P273_0 (ninS nq117 (ninS nq116 (ninS nq119 (ninS nq173 nin0))))).keep P283_0 (ninS nq262 (ninS nq264 (ninS nq117 (ninS nq116 (ninS nq119 (ninS nq173 nin0))))))).keep P302_0 (ninS nq305 nin0)).other W307 (Or.inr (Ne.symm (sn55 hw)))), ((((((((F_free_r0.ext E103).keep P112_0 (ninS nq116 (ninS nq117 (ninS nq119 nin0)))).keep P170_0 (ninS nq116 (ninS nq173 nin0))).keep P258_0 (ninS nq262 (ninS nq264 nin0))).keep P273_0 (ninS nq117 (ninS nq116 (ninS nq119 (ninS nq173 nin0))))).keep P283_0 (ninS nq262 (ninS nq264 (ninS nq117 (ninS nq116 (ninS nq119 (ninS nq173 nin0))))))).keep P302_0 (ninS nq305 nin0)).other W307 (Or.inr (Ne.symm (sn56 hw)))), ((((((Fc122.keep P170_0 (ninS nq116 (ninS nq173 nin0))).keep P258_0 (ninS nq262 (ninS nq264 nin0))).keep P273_0 (ninS nq117 (ninS nq116 (ninS nq119 (ninS nq173 nin0))))).keep P283_0 (ninS nq262 (ninS nq264 (ninS nq117 (ninS nq116 (ninS nq119 (ninS nq173 nin0))))))).keep P302_0 (ninS nq305 nin0)).other W307 (Or.inr (Ne.symm (sn57 hw)))), ((((((Fc123.keep P170_0 (ninS nq116 (ninS nq173 nin0))).keep P258_0 (ninS nq262 (ninS nq264 nin0))).keep P273_0 (ninS nq117 (ninS nq116 (ninS nq119 (ninS nq173 nin0))))).keep P283_0 (ninS nq262 (ninS nq264 (ninS nq117 (ninS nq116 (ninS nq119 (ninS nq173 nin0))))))).keep P302_0 (ninS nq305 nin0)).other W307 (Or.inr (Ne.symm (sn58 hw)))), ((((((((F_place_r0.ext E103).keep P112_0 (ninS nq116 (ninS nq117 (ninS nq119 nin0)))).keep P170_0 (ninS nq116 (ninS nq173 nin0))).keep P258_0 (ninS nq262 (ninS nq264 nin0))).keep P273_0 (ninS nq117 (ninS nq116 (ninS nq119 (ninS nq173 nin0))))).keep P283_0 (ninS nq262 (ninS nq264 (ninS nq117 (ninS nq116 (ninS nq119 (ninS nq173 nin0))))))).keep P302_0 (ninS nq305 nin0)).other W307 (Or.inr (Ne.symm (sn59 hw)))), ((Fc286.keep P302_0 (ninS nq305 nin0)).other W307 (Or.inr (Ne.symm (sn60 hw)))), ((Fc288.keep P302_0 (ninS nq305 nin0)).other W307 (Or.inr (Ne.symm (sn61 hw)))), ((((((Fc121.keep P170_0 (ninS nq116 (ninS nq173 nin0))).keep P258_0 (ninS nq262 (ninS nq264 nin0))).keep P273_0 (ninS nq117 (ninS nq116 (ninS nq119 (ninS nq173 nin0))))).keep P283_0 (ninS nq262 (ninS nq264 (ninS nq117 (ninS nq116 (ninS nq119 (ninS nq173 nin0))))))).keep P302_0 (ninS nq305 nin0)).other W307 (Or.inr (Ne.symm (sn62 hw)))), ((Fc287.keep P302_0 (ninS nq305 nin0)).other W307 (Or.inr (Ne.symm (sn63 hw)))), ((Fc289.keep P302_0 (ninS nq305 nin0)).other W307 (Or.inr (Ne.symm (sn64 hw)))), ((((((((F_columns_r0.ext E103).keep P112_0 (ninS nq116 (ninS nq117 (ninS nq119 nin0)))).keep P170_0 (ninS nq116 (ninS nq173 nin0))).keep P258_0 (ninS nq262 (ninS nq264 nin0))).keep P273_0 (ninS nq117 (ninS nq116 (ninS nq119 (ninS nq173 nin0))))).keep P283_0 (ninS nq262 (ninS nq264 (ninS nq117 (ninS nq116 (ninS nq119 (ninS nq173 nin0))))))).keep P302_0 (ninS nq305 nin0)).other W307 (Or.inr (Ne.symm (sn65 hw)))), ((Fc291.keep P302_0).wr W307), ((P283_8.keep P302_0 (ninS (Ne.symm nq300) nin0)).other W307 (Ne.symm nq264)), (by rw [hE0, hE1]; exact ((P283_3.keep P302_0 (ninS (Ne.symm ne_va_i0) nin0)).other W307 (Ne.symm nq119))), (by rw [hE2, hE3]; exact ((P283_4.keep P302_0 (ninS (Ne.symm ne_va_i1) nin0)).other W307 (Ne.symm nq173))), (by have q := (P302_1.other W307 (Ne.symm nq305)); rw [hW0.2.2.2.2, hW1.2.2.2.2] at q; exact q), ((((Fc271.keep P273_0).keep P283_0).keep P302_0).wr W307), ((((Fc272.keep P273_0).keep P283_0).keep P302_0).wr W307)⟩
def own_H (pp b0 : Int32) (g0 g1 d0 d1 ee i00 i01 i10 i11 : UInt64) : Prop := (pp = 0 → b0 = 1 → ¬ ((0 : Int32) < own_pv 0 d0) ∧ own_ok g0 g1 d0 ee 0 d1 (4607182418800017408 : UInt64) 0 0 (4607182418800017408 : UInt64) i00 i01 i10 i11) ∧ (pp = 1 → b0 = 1 → (0 : Int32) < own_pv d0 0 ∧ own_ok g0 g1 d0 ee 0 d1 0 (4607182418800017408 : UInt64) (4607182418800017408 : UInt64) 0 i00 i01 i10 i11) ∧ (pp = 0 → b0 = 2 → ((0 : Int32) < own_pv d1 ee → own_ok g0 g1 d1 0 ee d0 0 (4607182418800017408 : UInt64) (4607182418800017408 : UInt64) 0 i00 i01 i10 i11) ∧ (¬ ((0 : Int32) < own_pv d1 ee) → own_ok g0 g1 ee d0 d1 0 (4607182418800017408 : UInt64) 0 0 (4607182418800017408 : UInt64) i00 i01 i10 i11)) ∧ (pp = 1 → b0 = 2 → ((0 : Int32) < own_pv ee d1 → own_ok g0 g1 ee d0 d1 0 0 (4607182418800017408 : UInt64) (4607182418800017408 : UInt64) 0 i00 i01 i10 i11) ∧ (¬ ((0 : Int32) < own_pv ee d1) → own_ok g0 g1 d1 0 ee d0 (4607182418800017408 : UInt64) 0 0 (4607182418800017408 : UInt64) i00 i01 i10 i11))
theorem own_main0 {pp : Int32} {d0 d1 e gg : UInt64} (hp : pp = 0 ∨ pp = 1) (d8 : own_is8 d0) (d8' : own_is8 d1) (he : own_is9 e) (hg : gg = FP.dadd d0 e) : ∃ iA iB iC iD : UInt64, own_H pp 1 (own_s pp gg d1) (own_s pp d1 gg) d0 d1 e (own_s pp iA iB) (own_s pp iB iA) (own_s pp iC iD) (own_s pp iD iC) ∧ own_Dy (8 * own_mi d0) 6 iA ∧ own_Dy (-(own_vi e * (own_mi d0 * own_mi d1))) 6 iB ∧ own_Dy 0 6 iC ∧ own_Dy (8 * own_mi d1) 6 iD := by
  obtain ⟨i, rfl⟩ := d8
  obtain ⟨j, rfl⟩ := d8'
  obtain ⟨k, rfl⟩ := own_is9t he
  subst hg
  rcases hp with rfl | rfl
  · have h := own_K00_all i j k
    unfold own_K00 at h
    rw [Bool.and_eq_true] at h
    obtain ⟨a, b, c, d, ho, hP⟩ := own_ok_of h.2
    refine ⟨a, b, c, d, ⟨fun _ _ => ⟨of_decide_eq_true h.1, ho⟩, fun h => absurd h (by decide), fun _ h => absurd h (by decide), fun h => absurd h (by decide)⟩, own_P_t hP⟩
  · have h := own_K10_all i j k
    unfold own_K10 at h
    rw [Bool.and_eq_true] at h
    obtain ⟨a, b, c, d, ho, hP⟩ := own_ok_of h.2
    refine ⟨b, a, d, c, ⟨fun h => absurd h (by decide), fun _ _ => ⟨of_decide_eq_true h.1, ho⟩, fun h => absurd h (by decide), fun _ h => absurd h (by decide)⟩, own_P_t hP⟩
theorem own_main1 {pp : Int32} {d0 d1 e gg : UInt64} (hp : pp = 0 ∨ pp = 1) (d8 : own_is8 d0) (d8' : own_is8 d1) (he : own_is9 e) (hg : gg = FP.dadd d0 e) : ∃ iA iB iC iD : UInt64, own_H pp 2 (own_s pp gg d1) (own_s pp d1 gg) d0 d1 e (own_s pp iC iD) (own_s pp iD iC) (own_s pp iA iB) (own_s pp iB iA) ∧ own_Dy (8 * own_mi d0) 6 iA ∧ own_Dy (-(own_vi e * (own_mi d0 * own_mi d1))) 6 iB ∧ own_Dy 0 6 iC ∧ own_Dy (8 * own_mi d1) 6 iD := by
  obtain ⟨i, rfl⟩ := d8
  obtain ⟨j, rfl⟩ := d8'
  obtain ⟨k, rfl⟩ := own_is9t he
  subst hg
  rcases hp with rfl | rfl
  · have h := own_K01_all i j k
    unfold own_K01 at h
    by_cases z : (0 : Int32) < own_pv (own_t8 j) (own_t9 k)
    · rw [if_pos z] at h
      obtain ⟨a, b, c, d, ho, hP⟩ := own_ok_of h
      exact ⟨c, d, a, b, ⟨fun _ h => absurd h (by decide), fun h => absurd h (by decide), fun _ _ => ⟨fun _ => ho, fun q => absurd z q⟩, fun h => absurd h (by decide)⟩, own_P_t hP⟩
    · rw [if_neg z] at h
      obtain ⟨a, b, c, d, ho, hP⟩ := own_ok_of h
      exact ⟨c, d, a, b, ⟨fun _ h => absurd h (by decide), fun h => absurd h (by decide), fun _ _ => ⟨fun q => absurd q z, fun _ => ho⟩, fun h => absurd h (by decide)⟩, own_P_t hP⟩
  · have h := own_K11_all i j k
    unfold own_K11 at h
    by_cases z : (0 : Int32) < own_pv (own_t9 k) (own_t8 j)
    · rw [if_pos z] at h
      obtain ⟨a, b, c, d, ho, hP⟩ := own_ok_of h
      exact ⟨d, c, b, a, ⟨fun h => absurd h (by decide), fun _ h => absurd h (by decide), fun h => absurd h (by decide), fun _ _ => ⟨fun _ => ho, fun q => absurd z q⟩⟩, own_P_t hP⟩
    · rw [if_neg z] at h
      obtain ⟨a, b, c, d, ho, hP⟩ := own_ok_of h
      exact ⟨d, c, b, a, ⟨fun h => absurd h (by decide), fun _ h => absurd h (by decide), fun h => absurd h (by decide), fun _ _ => ⟨fun q => absurd q z, fun _ => ho⟩⟩, own_P_t hP⟩
def Q6A (Z : State) (r0 : Addr) (co : Addr) (fr : Addr) (er : Addr) (ev : Addr) (pl : Addr) (rh : Addr) (ba : Addr) (ri : Addr) (va : Addr) (i0 : Addr) (i1 : Addr) (e1 : Addr) (e2 : Addr) (f1 : Addr) (f2 : Addr) (ker : ClassId) (kev : ClassId) (krh : ClassId) (kba : ClassId) (kri : ClassId) (ki : ClassId) (kva : ClassId) (ke1 : ClassId) (ke2 : ClassId) (kf1 : ClassId) (kf2 : ClassId) (wE : Value) (wF : Value) (wC : Value) (d0 : UInt64) (d1 : UInt64) (ee : UInt64) (g0 : UInt64) (g1 : UInt64) (i00 : UInt64) (i01 : UInt64) (i10 : UInt64) (i11 : UInt64) (pp : Int32) (pq : Int32) (b0 : Int32) (b1 : Int32) (h0 : Heap) (n0 : Nat) (v : Option Value) (h : Heap) (L : List Loc) : Prop := ∃ j0 : Addr, ∃ j1 : Addr, v = some (.int 1) ∧ Fr n0 L ∧ (Keep h0 h [r0, ri, i0, i1, va]) ∧ (Fld Z h r0 own_K1 "costs" "[D" (.ref co)) ∧ (Fld Z h r0 own_K1 "free" "[Z" (.ref fr)) ∧ (Fld Z h r0 own_K1 "entryRows" "[[I" (.ref er)) ∧ (Fld Z h r0 own_K1 "entryValues" "[[D" (.ref ev)) ∧ (Fld Z h r0 own_K1 "place" "[I" (.ref pl)) ∧ (Fld Z h r0 own_K1 "rows" "I" (.int 2)) ∧ (Fld Z h r0 own_K1 "rhs" "[D" (.ref rh)) ∧ (Fld Z h r0 own_K1 "basic" "[I" (.ref ba)) ∧ (Fld Z h r0 own_K1 "inverse" "[[D" (.ref ri)) ∧ (Fld Z h r0 own_K1 "values" "[D" (.ref va)) ∧ (Fld Z h r0 own_K1 "columns" "I" wC) ∧ (Exa Z h r0 own_K1) ∧ (Arv Z h ri kri (.array .double) (2 : Int32) [(.ref j0), (.ref j1)] .null) ∧ (Arv Z h j0 ki .double (2 : Int32) [(.double i00), (.double i01)] (.double 0)) ∧ (Arv Z h j1 ki .double (2 : Int32) [(.double i10), (.double i11)] (.double 0)) ∧ (Arv Z h va kva .double (2 : Int32) [(.double 4607182418800017408), (.double 4607182418800017408)] (.double 0)) ∧ (Exa Z h j0 "[D") ∧ (Exa Z h j1 "[D")
set_option maxRecDepth 65536 in
set_option maxHeartbeats 40000000 in
theorem rm6A (l : Launch) (Z : State) (a0 : Array Value) (hw : own_HW Z a0) (ws : List Jvm.Cond) (r0 : Addr) (co : Addr) (fr : Addr) (er : Addr) (ev : Addr) (pl : Addr) (rh : Addr) (ba : Addr) (ri : Addr) (va : Addr) (i0 : Addr) (i1 : Addr) (e1 : Addr) (e2 : Addr) (f1 : Addr) (f2 : Addr) (ker : ClassId) (kev : ClassId) (krh : ClassId) (kba : ClassId) (kri : ClassId) (ki : ClassId) (kva : ClassId) (ke1 : ClassId) (ke2 : ClassId) (kf1 : ClassId) (kf2 : ClassId) (wE : Value) (wF : Value) (wC : Value) (d0 : UInt64) (d1 : UInt64) (ee : UInt64) (g0 : UInt64) (g1 : UInt64) (i00 : UInt64) (i01 : UInt64) (i10 : UInt64) (i11 : UInt64) (pp : Int32) (pq : Int32) (b0 : Int32) (b1 : Int32) (h0 : Heap) (n0 : Nat) (Z0 : n0 ≤ h0.size) (F_costs_r0 : Fld Z h0 r0 own_K1 "costs" "[D" (.ref co)) (F_free_r0 : Fld Z h0 r0 own_K1 "free" "[Z" (.ref fr)) (F_entryRows_r0 : Fld Z h0 r0 own_K1 "entryRows" "[[I" (.ref er)) (F_entryValues_r0 : Fld Z h0 r0 own_K1 "entryValues" "[[D" (.ref ev)) (F_place_r0 : Fld Z h0 r0 own_K1 "place" "[I" (.ref pl)) (F_rows_r0 : Fld Z h0 r0 own_K1 "rows" "I" (.int 2)) (F_rhs_r0 : Fld Z h0 r0 own_K1 "rhs" "[D" (.ref rh)) (F_basic_r0 : Fld Z h0 r0 own_K1 "basic" "[I" (.ref ba)) (F_inverse_r0 : Fld Z h0 r0 own_K1 "inverse" "[[D" (.ref ri)) (F_values_r0 : Fld Z h0 r0 own_K1 "values" "[D" (.ref va)) (F_columns_r0 : Fld Z h0 r0 own_K1 "columns" "I" wC) (F_pivotsSinceRefresh_r0 : Fld Z h0 r0 own_K1 "pivotsSinceRefresh" "I" (.int 0)) (V_er : Arv Z h0 er ker (.array .int) (16 : Int32) [wE, (.ref e1), (.ref e2)] .null) (V_ev : Arv Z h0 ev kev (.array .double) (16 : Int32) [wF, (.ref f1), (.ref f2)] .null) (V_rh : Arv Z h0 rh krh .double (2 : Int32) [(.double g0), (.double g1)] (.double 0)) (V_ba : Arv Z h0 ba kba .int (2 : Int32) [(.int b0), (.int b1)] (.int 0)) (V_ri : Arv Z h0 ri kri (.array .double) (2 : Int32) [(.ref i0), (.ref i1)] .null) (V_i0 : Arv Z h0 i0 ki .double (2 : Int32) [(.double 0), (.double 0)] (.double 0)) (V_i1 : Arv Z h0 i1 ki .double (2 : Int32) [(.double 0), (.double 0)] (.double 0)) (V_va : Arv Z h0 va kva .double (2 : Int32) [(.double 0), (.double 0)] (.double 0)) (V_e1 : Arv Z h0 e1 ke1 .int (1 : Int32) [(.int pp)] (.int 0)) (V_e2 : Arv Z h0 e2 ke2 .int (2 : Int32) [(.int pp), (.int pq)] (.int 0)) (V_f1 : Arv Z h0 f1 kf1 .double (1 : Int32) [(.double d0)] (.double 0)) (V_f2 : Arv Z h0 f2 kf2 .double (2 : Int32) [(.double ee), (.double d1)] (.double 0)) (E_r0 : Exa Z h0 r0 own_K1) (E_er : Exa Z h0 er "[[I") (E_ev : Exa Z h0 ev "[[D") (E_rh : Exa Z h0 rh "[D") (E_ba : Exa Z h0 ba "[I") (E_ri : Exa Z h0 ri "[[D") (E_i0 : Exa Z h0 i0 "[D") (E_i1 : Exa Z h0 i1 "[D") (E_va : Exa Z h0 va "[D") (E_e1 : Exa Z h0 e1 "[I") (E_e2 : Exa Z h0 e2 "[I") (E_f1 : Exa Z h0 f1 "[D") (E_f2 : Exa Z h0 f2 "[D") (O_ri : OvrA Z kri .double "[D") (g_r0 : n0 ≤ r0) (g_ri : n0 ≤ ri) (g_i0 : n0 ≤ i0) (g_i1 : n0 ≤ i1) (g_va : n0 ≤ va) (ne_i0_i1 : i0 ≠ i1) (ne_f1_i0 : f1 ≠ i0) (ne_f1_i1 : f1 ≠ i1) (ne_f2_i0 : f2 ≠ i0) (ne_f2_i1 : f2 ≠ i1) (ne_va_i0 : va ≠ i0) (ne_va_i1 : va ≠ i1) (ne_rh_i0 : rh ≠ i0) (ne_rh_i1 : rh ≠ i1) (ne_rh_va : rh ≠ va) (hn0 : NoNaN64 d0) (hn1 : NoNaN64 d1) (hne : NoNaN64 ee) (hpq : (pp = 0 ∧ pq = 1) ∨ (pp = 1 ∧ pq = 0)) (hbb : (b0 = 1 ∧ b1 = 2) ∨ (b0 = 2 ∧ b1 = 1)) (hH : own_H pp b0 g0 g1 d0 d1 ee i00 i01 i10 i11) :
    MetFree l (⟨own_K1, "refresh", "()Z"⟩ : MethodName) (head1 (Jvm.Cond.code (⟨own_K1, "refresh", "()Z"⟩ : MethodName) prog_41_method_12_code 10 (some .boolean) :: ws) ({ frames := 1, cells := 3, slots := 6, locals := 40 } : Room)) (fun a U => a = #[(.ref r0)] ∧ Z.Warmed39 U.vm ∧ U.heap = h0) (fun _ _ _ _ _ => True) (fun _ U o U' => ∃ v L, o = .returned v ∧ Q6A Z r0 co fr er ev pl rh ba ri va i0 i1 e1 e2 f1 f2 ker kev krh kba kri ki kva ke1 ke2 kf1 kf2 wE wF wC d0 d1 ee g0 g1 i00 i01 i10 i11 pp pq b0 b1 h0 n0 v U'.heap L ∧ FrameEnd U o U' L ({ frames := 1, cells := 3, slots := 6, locals := 40 } : Room).cells ({ frames := 1, cells := 3, slots := 6, locals := 40 } : Room).slots) := by
  rcases hpq with ⟨rfl, rfl⟩ | ⟨rfl, rfl⟩ <;> rcases hbb with ⟨rfl, rfl⟩ | ⟨rfl, rfl⟩
  · exact rm6_00 l Z a0 hw ws r0 co fr er ev pl rh ba ri va i0 i1 e1 e2 f1 f2 ker kev krh kba kri ki kva ke1 ke2 kf1 kf2 wE wF wC d0 d1 ee g0 g1 i00 i01 i10 i11 h0 n0 Z0 F_costs_r0 F_free_r0 F_entryRows_r0 F_entryValues_r0 F_place_r0 F_rows_r0 F_rhs_r0 F_basic_r0 F_inverse_r0 F_values_r0 F_columns_r0 F_pivotsSinceRefresh_r0 V_er V_ev V_rh V_ba V_ri V_i0 V_i1 V_va V_e1 V_e2 V_f1 V_f2 E_r0 E_er E_ev E_rh E_ba E_ri E_i0 E_i1 E_va E_e1 E_e2 E_f1 E_f2 O_ri g_r0 g_ri g_i0 g_i1 g_va ne_i0_i1 ne_f1_i0 ne_f1_i1 ne_f2_i0 ne_f2_i1 ne_va_i0 ne_va_i1 ne_rh_i0 ne_rh_i1 ne_rh_va hn0 hn1 hne (hH.1 rfl rfl)
  · exact rm6_01 l Z a0 hw ws r0 co fr er ev pl rh ba ri va i0 i1 e1 e2 f1 f2 ker kev krh kba kri ki kva ke1 ke2 kf1 kf2 wE wF wC d0 d1 ee g0 g1 i00 i01 i10 i11 h0 n0 Z0 F_costs_r0 F_free_r0 F_entryRows_r0 F_entryValues_r0 F_place_r0 F_rows_r0 F_rhs_r0 F_basic_r0 F_inverse_r0 F_values_r0 F_columns_r0 F_pivotsSinceRefresh_r0 V_er V_ev V_rh V_ba V_ri V_i0 V_i1 V_va V_e1 V_e2 V_f1 V_f2 E_r0 E_er E_ev E_rh E_ba E_ri E_i0 E_i1 E_va E_e1 E_e2 E_f1 E_f2 O_ri g_r0 g_ri g_i0 g_i1 g_va ne_i0_i1 ne_f1_i0 ne_f1_i1 ne_f2_i0 ne_f2_i1 ne_va_i0 ne_va_i1 ne_rh_i0 ne_rh_i1 ne_rh_va hn0 hn1 hne (hH.2.2.1 rfl rfl)
  · exact rm6_10 l Z a0 hw ws r0 co fr er ev pl rh ba ri va i0 i1 e1 e2 f1 f2 ker kev krh kba kri ki kva ke1 ke2 kf1 kf2 wE wF wC d0 d1 ee g0 g1 i00 i01 i10 i11 h0 n0 Z0 F_costs_r0 F_free_r0 F_entryRows_r0 F_entryValues_r0 F_place_r0 F_rows_r0 F_rhs_r0 F_basic_r0 F_inverse_r0 F_values_r0 F_columns_r0 F_pivotsSinceRefresh_r0 V_er V_ev V_rh V_ba V_ri V_i0 V_i1 V_va V_e1 V_e2 V_f1 V_f2 E_r0 E_er E_ev E_rh E_ba E_ri E_i0 E_i1 E_va E_e1 E_e2 E_f1 E_f2 O_ri g_r0 g_ri g_i0 g_i1 g_va ne_i0_i1 ne_f1_i0 ne_f1_i1 ne_f2_i0 ne_f2_i1 ne_va_i0 ne_va_i1 ne_rh_i0 ne_rh_i1 ne_rh_va hn0 hn1 hne (hH.2.1 rfl rfl)
  · exact rm6_11 l Z a0 hw ws r0 co fr er ev pl rh ba ri va i0 i1 e1 e2 f1 f2 ker kev krh kba kri ki kva ke1 ke2 kf1 kf2 wE wF wC d0 d1 ee g0 g1 i00 i01 i10 i11 h0 n0 Z0 F_costs_r0 F_free_r0 F_entryRows_r0 F_entryValues_r0 F_place_r0 F_rows_r0 F_rhs_r0 F_basic_r0 F_inverse_r0 F_values_r0 F_columns_r0 F_pivotsSinceRefresh_r0 V_er V_ev V_rh V_ba V_ri V_i0 V_i1 V_va V_e1 V_e2 V_f1 V_f2 E_r0 E_er E_ev E_rh E_ba E_ri E_i0 E_i1 E_va E_e1 E_e2 E_f1 E_f2 O_ri g_r0 g_ri g_i0 g_i1 g_va ne_i0_i1 ne_f1_i0 ne_f1_i1 ne_f2_i0 ne_f2_i1 ne_va_i0 ne_va_i1 ne_rh_i0 ne_rh_i1 ne_rh_va hn0 hn1 hne (hH.2.2.2 rfl rfl)
theorem pd4 : parseMethodDescriptor "()Z" = some ⟨[], some .boolean⟩ := by decide +kernel
theorem own_selP {Z : State} {a0 : Array Value} {y y2 : MethodName} (hs : (Jvm.Cond.selects y2.cls y2 y2).before a0 Z = true) (hcls : y2.cls = y.cls) (hp : (Jvm.Cond.privateMethod y).before a0 Z = true) (hi : (Jvm.Cond.instanceMethod y).before a0 Z = true) (hy : y.cls ≠ "java/lang/invoke/MethodHandle" ∧ y.cls ≠ "java/lang/invoke/VarHandle") : (Jvm.Cond.selects y.cls y y).before a0 Z = true := by
  obtain ⟨c2, r2, m2, -, -, q3, -, kP, hkP, hkPi⟩ := Cond.selects_spec hs
  have hc := findClass_of_methodNamed q3
  rw [hcls] at hc
  exact Jvm.Stand.selects_self_of_private hc hkP hkPi (Cond.privateMethod_at hp) hi hy
theorem pd5 : parseMethodDescriptor "()D" = some ⟨[], some .double⟩ := by decide +kernel
theorem d5_0 : decode k5 0 = .ok (.iconst 0, 1) := by decide +kernel
theorem d5_1 : decode k5 1 = .ok (.istore_n 2, 1) := by decide +kernel
theorem d5_2 : decode k5 2 = .ok (.iload_n 2, 1) := by decide +kernel
theorem d5_3 : decode k5 3 = .ok (.aload_n 0, 1) := by decide +kernel
theorem d5_4 : decode k5 4 = .ok (.getfield 31, 3) := by decide +kernel
theorem d5_7 : decode k5 7 = .ok (.if_icmp .ge 27, 3) := by decide +kernel
theorem d5_10 : decode k5 10 = .ok (.aload_n 0, 1) := by decide +kernel
theorem d5_11 : decode k5 11 = .ok (.getfield 42, 3) := by decide +kernel
theorem d5_14 : decode k5 14 = .ok (.iload_n 2, 1) := by decide +kernel
theorem d5_15 : decode k5 15 = .ok (.aload_n 1, 1) := by decide +kernel
theorem d5_16 : decode k5 16 = .ok (.iload_n 2, 1) := by decide +kernel
theorem d5_17 : decode k5 17 = .ok (.iaload, 1) := by decide +kernel
theorem d5_18 : decode k5 18 = .ok (.iastore, 1) := by decide +kernel
theorem d5_19 : decode k5 19 = .ok (.aload_n 0, 1) := by decide +kernel
theorem d5_20 : decode k5 20 = .ok (.getfield 28, 3) := by decide +kernel
theorem d5_23 : decode k5 23 = .ok (.aload_n 1, 1) := by decide +kernel
theorem d5_24 : decode k5 24 = .ok (.iload_n 2, 1) := by decide +kernel
theorem d5_25 : decode k5 25 = .ok (.iaload, 1) := by decide +kernel
theorem d5_26 : decode k5 26 = .ok (.iload_n 2, 1) := by decide +kernel
theorem d5_27 : decode k5 27 = .ok (.iastore, 1) := by decide +kernel
theorem d5_28 : decode k5 28 = .ok (.iinc 2 1, 3) := by decide +kernel
theorem d5_31 : decode k5 31 = .ok (.goto (-29), 3) := by decide +kernel
theorem d5_34 : decode k5 34 = .ok (.aload_n 0, 1) := by decide +kernel
theorem d5_35 : decode k5 35 = .ok (.invokevirtual 72, 3) := by decide +kernel
theorem d5_38 : decode k5 38 = .ok (.ifCond .eq 18, 3) := by decide +kernel
theorem d5_41 : decode k5 41 = .ok (.aload_n 0, 1) := by decide +kernel
theorem d5_42 : decode k5 42 = .ok (.invokevirtual 76, 3) := by decide +kernel
theorem d5_45 : decode k5 45 = .ok (.ldc2_w 80, 3) := by decide +kernel
theorem d5_48 : decode k5 48 = .ok (.dcmp .l, 1) := by decide +kernel
theorem d5_49 : decode k5 49 = .ok (.ifCond .lt 7, 3) := by decide +kernel
theorem d5_52 : decode k5 52 = .ok (.iconst 1, 1) := by decide +kernel
theorem d5_53 : decode k5 53 = .ok (.goto 4, 3) := by decide +kernel
theorem d5_57 : decode k5 57 = .ok (.ireturn, 1) := by decide +kernel
theorem efm5 (m : MethodId) (r0 : Addr) (r1 : Addr) : entryFrame m #[(.ref r0), (.ref r1)] 3 = mkF m 0 #[oR r0, oR r1, oU] [] := by first | (simp [entryFrame, mkF, argsToLocals, Value.category]; done) | rfl
def Qm5 (Z : State) (r0 : Addr) (r1 : Addr) (co : Addr) (fr : Addr) (er : Addr) (ev : Addr) (pl : Addr) (rh : Addr) (ba : Addr) (ri : Addr) (va : Addr) (i0 : Addr) (i1 : Addr) (e1 : Addr) (e2 : Addr) (f1 : Addr) (f2 : Addr) (ker : ClassId) (kev : ClassId) (krh : ClassId) (kba : ClassId) (kri : ClassId) (ki : ClassId) (kva : ClassId) (ke1 : ClassId) (ke2 : ClassId) (kf1 : ClassId) (kf2 : ClassId) (wE : Value) (wF : Value) (wC : Value) (d0 : UInt64) (d1 : UInt64) (ee : UInt64) (g0 : UInt64) (g1 : UInt64) (i00 : UInt64) (i01 : UInt64) (i10 : UInt64) (i11 : UInt64) (pp : Int32) (pq : Int32) (b0 : Int32) (b1 : Int32) (k1 : ClassId) (kpl : ClassId) (kfr : ClassId) (vp : List Value) (h0 : Heap) (n0 : Nat) (v : Option Value) (h : Heap) (L : List Loc) : Prop := ∃ j0 : Addr, ∃ j1 : Addr, v = some (.int 1) ∧ Fr n0 L ∧ (Keep h0 h [r0, ba, pl, ri, i0, i1, va]) ∧ (Fld Z h r0 own_K1 "costs" "[D" (.ref co)) ∧ (Fld Z h r0 own_K1 "free" "[Z" (.ref fr)) ∧ (Fld Z h r0 own_K1 "entryRows" "[[I" (.ref er)) ∧ (Fld Z h r0 own_K1 "entryValues" "[[D" (.ref ev)) ∧ (Fld Z h r0 own_K1 "place" "[I" (.ref pl)) ∧ (Fld Z h r0 own_K1 "rows" "I" (.int 2)) ∧ (Fld Z h r0 own_K1 "rhs" "[D" (.ref rh)) ∧ (Fld Z h r0 own_K1 "basic" "[I" (.ref ba)) ∧ (Fld Z h r0 own_K1 "inverse" "[[D" (.ref ri)) ∧ (Fld Z h r0 own_K1 "values" "[D" (.ref va)) ∧ (Fld Z h r0 own_K1 "columns" "I" wC) ∧ (Exa Z h r0 own_K1) ∧ (Arv Z h ri kri (.array .double) (2 : Int32) [(.ref j0), (.ref j1)] .null) ∧ (Arv Z h j0 ki .double (2 : Int32) [(.double i00), (.double i01)] (.double 0)) ∧ (Arv Z h j1 ki .double (2 : Int32) [(.double i10), (.double i11)] (.double 0)) ∧ (Arv Z h va kva .double (2 : Int32) [(.double 4607182418800017408), (.double 4607182418800017408)] (.double 0)) ∧ (Exa Z h j0 "[D") ∧ (Exa Z h j1 "[D") ∧ (Arv Z h ba kba .int (2 : Int32) [(.int b0), (.int b1)] (.int 0))
set_option maxRecDepth 65536 in
set_option maxHeartbeats 40000000 in
theorem rmm5 (l : Launch) (Z : State) (a0 : Array Value) (hw : own_HW Z a0) (ws : List Jvm.Cond) (r0 : Addr) (r1 : Addr) (co : Addr) (fr : Addr) (er : Addr) (ev : Addr) (pl : Addr) (rh : Addr) (ba : Addr) (ri : Addr) (va : Addr) (i0 : Addr) (i1 : Addr) (e1 : Addr) (e2 : Addr) (f1 : Addr) (f2 : Addr) (ker : ClassId) (kev : ClassId) (krh : ClassId) (kba : ClassId) (kri : ClassId) (ki : ClassId) (kva : ClassId) (ke1 : ClassId) (ke2 : ClassId) (kf1 : ClassId) (kf2 : ClassId) (wE : Value) (wF : Value) (wC : Value) (d0 : UInt64) (d1 : UInt64) (ee : UInt64) (g0 : UInt64) (g1 : UInt64) (i00 : UInt64) (i01 : UInt64) (i10 : UInt64) (i11 : UInt64) (pp : Int32) (pq : Int32) (b0 : Int32) (b1 : Int32) (k1 : ClassId) (kpl : ClassId) (kfr : ClassId) (vp : List Value) (h0 : Heap) (n0 : Nat) (Z0 : n0 ≤ h0.size) (F_costs_r0 : Fld Z h0 r0 own_K1 "costs" "[D" (.ref co)) (F_free_r0 : Fld Z h0 r0 own_K1 "free" "[Z" (.ref fr)) (F_entryRows_r0 : Fld Z h0 r0 own_K1 "entryRows" "[[I" (.ref er)) (F_entryValues_r0 : Fld Z h0 r0 own_K1 "entryValues" "[[D" (.ref ev)) (F_place_r0 : Fld Z h0 r0 own_K1 "place" "[I" (.ref pl)) (F_rows_r0 : Fld Z h0 r0 own_K1 "rows" "I" (.int 2)) (F_rhs_r0 : Fld Z h0 r0 own_K1 "rhs" "[D" (.ref rh)) (F_basic_r0 : Fld Z h0 r0 own_K1 "basic" "[I" (.ref ba)) (F_inverse_r0 : Fld Z h0 r0 own_K1 "inverse" "[[D" (.ref ri)) (F_values_r0 : Fld Z h0 r0 own_K1 "values" "[D" (.ref va)) (F_columns_r0 : Fld Z h0 r0 own_K1 "columns" "I" wC) (F_pivotsSinceRefresh_r0 : Fld Z h0 r0 own_K1 "pivotsSinceRefresh" "I" (.int 0)) (V_er : Arv Z h0 er ker (.array .int) (16 : Int32) [wE, (.ref e1), (.ref e2)] .null) (V_ev : Arv Z h0 ev kev (.array .double) (16 : Int32) [wF, (.ref f1), (.ref f2)] .null) (V_rh : Arv Z h0 rh krh .double (2 : Int32) [(.double g0), (.double g1)] (.double 0)) (V_ri : Arv Z h0 ri kri (.array .double) (2 : Int32) [(.ref i0), (.ref i1)] .null) (V_i0 : Arv Z h0 i0 ki .double (2 : Int32) [(.double 0), (.double 0)] (.double 0)) (V_i1 : Arv Z h0 i1 ki .double (2 : Int32) [(.double 0), (.double 0)] (.double 0)) (V_va : Arv Z h0 va kva .double (2 : Int32) [(.double 0), (.double 0)] (.double 0)) (V_e1 : Arv Z h0 e1 ke1 .int (1 : Int32) [(.int pp)] (.int 0)) (V_e2 : Arv Z h0 e2 ke2 .int (2 : Int32) [(.int pp), (.int pq)] (.int 0)) (V_f1 : Arv Z h0 f1 kf1 .double (1 : Int32) [(.double d0)] (.double 0)) (V_f2 : Arv Z h0 f2 kf2 .double (2 : Int32) [(.double ee), (.double d1)] (.double 0)) (E_r0 : Exa Z h0 r0 own_K1) (E_er : Exa Z h0 er "[[I") (E_ev : Exa Z h0 ev "[[D") (E_rh : Exa Z h0 rh "[D") (E_ba : Exa Z h0 ba "[I") (E_ri : Exa Z h0 ri "[[D") (E_i0 : Exa Z h0 i0 "[D") (E_i1 : Exa Z h0 i1 "[D") (E_va : Exa Z h0 va "[D") (E_e1 : Exa Z h0 e1 "[I") (E_e2 : Exa Z h0 e2 "[I") (E_f1 : Exa Z h0 f1 "[D") (E_f2 : Exa Z h0 f2 "[D") (O_ri : OvrA Z kri .double "[D") (g_r0 : n0 ≤ r0) (g_ri : n0 ≤ ri) (g_i0 : n0 ≤ i0) (g_i1 : n0 ≤ i1) (g_va : n0 ≤ va) (ne_i0_i1 : i0 ≠ i1) (ne_f1_i0 : f1 ≠ i0) (ne_f1_i1 : f1 ≠ i1) (ne_f2_i0 : f2 ≠ i0) (ne_f2_i1 : f2 ≠ i1) (ne_va_i0 : va ≠ i0) (ne_va_i1 : va ≠ i1) (ne_rh_i0 : rh ≠ i0) (ne_rh_i1 : rh ≠ i1) (ne_rh_va : rh ≠ va) (hn0 : NoNaN64 d0) (hn1 : NoNaN64 d1) (hne : NoNaN64 ee) (hpq : (pp = 0 ∧ pq = 1) ∨ (pp = 1 ∧ pq = 0)) (hbb : (b0 = 1 ∧ b1 = 2) ∨ (b0 = 2 ∧ b1 = 1)) (hH : own_H pp b0 g0 g1 d0 d1 ee i00 i01 i10 i11) (V_ba : Arv Z h0 ba kba .int (2 : Int32) [(.int 0), (.int 0)] (.int 0)) (V_r1 : Arv Z h0 r1 k1 .int (2 : Int32) [(.int b0), (.int b1)] (.int 0)) (V_pl : Arv Z h0 pl kpl .int (16 : Int32) vp (.int 0)) (V_fr : Arv Z h0 fr kfr .boolean (16 : Int32) [(.int 0), (.int 0), (.int 0)] (.int 0)) (E_pl : Exa Z h0 pl "[I") (E_fr : Exa Z h0 fr "[Z") (E_r1 : Exa Z h0 r1 "[I") (g_ba : n0 ≤ ba) (g_pl : n0 ≤ pl) (ne_ba_pl : ba ≠ pl) (ne_r1_ba : r1 ≠ ba) (ne_r1_pl : r1 ≠ pl) (ne_ba_e1 : ba ≠ e1) (ne_ba_e2 : ba ≠ e2) (ne_pl_e1 : pl ≠ e1) (ne_pl_e2 : pl ≠ e2) (hi0 : ¬ b0 < (0 : Int32) ∧ b0 < (16 : Int32)) (hi1 : ¬ b1 < (0 : Int32) ∧ b1 < (16 : Int32)) (hf0 : ([.int 0, .int 0, .int 0] : List Value).getD b0.toNatClampNeg (.int 0) = .int 0) (hf1 : ([.int 0, .int 0, .int 0] : List Value).getD b1.toNatClampNeg (.int 0) = .int 0) (hl0 : b0.toNatClampNeg < vp.length) (hl1 : b1.toNatClampNeg < (vp.set b0.toNatClampNeg (.int 0)).length) :
    MetFree l (⟨own_K1, "start", "([I)Z"⟩ : MethodName) (head1 (Jvm.Cond.code (⟨own_K1, "start", "([I)Z"⟩ : MethodName) prog_41_method_3_code 3 (some .boolean) :: ws) ({ frames := 2, cells := 3, slots := 6, locals := 61 } : Room)) (fun a U => a = #[(.ref r0), (.ref r1)] ∧ Z.Warmed39 U.vm ∧ U.heap = h0) (fun _ _ _ _ _ => True) (fun _ U o U' => ∃ v L, o = .returned v ∧ Qm5 Z r0 r1 co fr er ev pl rh ba ri va i0 i1 e1 e2 f1 f2 ker kev krh kba kri ki kva ke1 ke2 kf1 kf2 wE wF wC d0 d1 ee g0 g1 i00 i01 i10 i11 pp pq b0 b1 k1 kpl kfr vp h0 n0 v U'.heap L ∧ FrameEnd U o U' L ({ frames := 2, cells := 3, slots := 6, locals := 61 } : Room).cells ({ frames := 2, cells := 3, slots := 6, locals := 61 } : Room).slots) := by
  refine MetFree.of_bodySF (plainFor_of_name pn1) hisR ?_
  intro p e s m args below meth c s₁ Bd hml0 hP hK
  obtain ⟨rfl, hZ, hh⟩ := hP
  have hx := Bd.exec
  have hby := Bd.bytes
  have hml : c.maxLocals = 3 := hml0
  have hown : s.vm.findClass own_K1 = some m.cls := findClass_of_methodNamed Bd.named
  have hnm := (name_of_methodNamed Bd.named Bd.method).1
  have X0 : Stand p l e ({ frames := 2, cells := 3, slots := 6, locals := 61 } : Room) s m #[(.ref r0), (.ref r1)] below meth c s₁ [] 0 0 := Stand.of_body Bd
  have e0 : s₁.heap = h0 := by rw [← hh, Bd.state]; rfl
  have N0 := Fr.nil n0
  have pre0 : ∀ t, Steps p.tables e below (s₁.setTop (mkF m 0 #[oR r0, oR r1, oU] [])) t → Steps p.tables e below (s₁.setTop (entryFrame m #[(.ref r0), (.ref r1)] 3)) t := fun t k => castTop (efm5 m r0 r1) k
  obtain ⟨T101, X101, e101, st101⟩ := getF X0 hx hZ hown (host := "") (Or.inl (own_w hw 30 rfl)) Via.refl e0 F_rows_r0 (g := (mkF m 4 #[oR r0, oR r1, oI 0] [(.ref r0), (.int 0)])) rfl rfl (hb hby d5_4)
  obtain ⟨T102, X102, e102, st102⟩ := getF X101 hx hZ hown (host := "") (Or.inl (own_w hw 42 rfl)) Via.refl e101 F_basic_r0 (g := (mkF m 11 #[oR r0, oR r1, oI 0] [(.ref r0)])) rfl rfl (hb hby d5_11)
  obtain ⟨cl103, Ar103, qk103, Sz103, Nz103, Hh103, Gg103⟩ := id V_r1
  have hin104 : ¬ ((0 : Int32) < 0 ∨ cl103.slots.size ≤ ((0 : Int32)).toNatClampNeg) := inb_of Sz103 ⟨by decide, by decide⟩
  have hat104 : cl103.slots[((0 : Int32)).toNatClampNeg]? = some (.int b0) := Has.at Hh103 hin104 rfl
  obtain ⟨cl105, Ar105, qk105, Sz105, Nz105, Hh105, Gg105⟩ := id V_ba
  have hin106 : ¬ ((0 : Int32) < 0 ∨ cl105.slots.size ≤ ((0 : Int32)).toNatClampNeg) := inb_of Sz105 ⟨by decide, by decide⟩
  obtain ⟨T107, h107, X107, e107, W107, st107⟩ := stI X102 hx hZ e102 Ar105 (j := (0 : Int32)) hin106 (g := (mkF m 18 #[oR r0, oR r1, oI 0] [(.int b0), (.int 0), (.ref ba)])) rfl rfl (hb hby d5_18)
  have Va107 := Arv.set Ar105 qk105 Sz105 Nz105 Hh105 Gg105 rfl W107 0 rfl (Nat.le_of_ble_eq_true rfl)
  have N107 := Fr.snoc X107 N0 g_ba
  have ZZ108 : n0 ≤ h107.size := Nat.le_trans Z0 (Nat.le_of_eq W107.size.symm)
  have KK109 : Keep h0 h107 [r0, ba, pl, ri, i0, i1, va] := (Keep.refl h0 [r0, ba, pl, ri, i0, i1, va]).wr W107 (Or.inl (List.mem_of_getElem? (i := 1) rfl))
  have nq110 : r0 ≠ ba := (ne_exa (E_r0.wr W107) (E_ba.wr W107) (by decide))
  have Fc111 := (F_place_r0.other W107 (Or.inl nq110))
  obtain ⟨T112, X112, e112, st112⟩ := getF X107 hx hZ hown (host := "") (Or.inl (own_w hw 28 rfl)) Via.refl e107 Fc111 (g := (mkF m 20 #[oR r0, oR r1, oI 0] [(.ref r0)])) rfl rfl (hb hby d5_20)
  have Fc113 := (V_r1.other W107 ne_r1_ba)
  obtain ⟨cl114, Ar114, qk114, Sz114, Nz114, Hh114, Gg114⟩ := id Fc113
  have hin115 : ¬ ((0 : Int32) < 0 ∨ cl114.slots.size ≤ ((0 : Int32)).toNatClampNeg) := inb_of Sz114 ⟨by decide, by decide⟩
  have hat115 : cl114.slots[((0 : Int32)).toNatClampNeg]? = some (.int b0) := Has.at Hh114 hin115 rfl
  have Fc116 := (V_pl.other W107 (Ne.symm ne_ba_pl))
  obtain ⟨cl117, Ar117, qk117, Sz117, Nz117, Hh117, Gg117⟩ := id Fc116
  have hin118 : ¬ (b0 < 0 ∨ cl117.slots.size ≤ (b0).toNatClampNeg) := inb_of Sz117 hi0
  obtain ⟨T119, h119, X119, e119, W119, st119⟩ := stI X112 hx hZ e112 Ar117 (j := b0) hin118 (g := (mkF m 27 #[oR r0, oR r1, oI 0] [(.int 0), (.int b0), (.ref pl)])) rfl rfl (hb hby d5_27)
  have Va119 := Arv.set Ar117 qk117 Sz117 Nz117 Hh117 Gg117 rfl W119 b0.toNatClampNeg rfl hl0
  have N119 := Fr.snoc X119 N107 g_pl
  have ZZ120 : n0 ≤ h119.size := Nat.le_trans ZZ108 (Nat.le_of_eq W119.size.symm)
  have KK121 : Keep h0 h119 [r0, ba, pl, ri, i0, i1, va] := KK109.wr W119 (Or.inl (List.mem_of_getElem? (i := 2) rfl))
  have nq122 : r0 ≠ pl := (ne_exa ((E_r0.wr W107).wr W119) ((E_pl.wr W107).wr W119) (by decide))
  have Fc123 := ((F_rows_r0.other W107 (Or.inl nq110)).other W119 (Or.inl nq122))
  obtain ⟨T124, X124, e124, st124⟩ := getF X119 hx hZ hown (host := "") (Or.inl (own_w hw 30 rfl)) Via.refl e119 Fc123 (g := (mkF m 4 #[oR r0, oR r1, oI 1] [(.ref r0), (.int 1)])) rfl rfl (hb hby d5_4)
  have Fc125 := ((F_basic_r0.other W107 (Or.inl nq110)).other W119 (Or.inl nq122))
  obtain ⟨T126, X126, e126, st126⟩ := getF X124 hx hZ hown (host := "") (Or.inl (own_w hw 42 rfl)) Via.refl e124 Fc125 (g := (mkF m 11 #[oR r0, oR r1, oI 1] [(.ref r0)])) rfl rfl (hb hby d5_11)
  have Fc127 := (Fc113.other W119 ne_r1_pl)
  obtain ⟨cl128, Ar128, qk128, Sz128, Nz128, Hh128, Gg128⟩ := id Fc127
  have hin129 : ¬ ((1 : Int32) < 0 ∨ cl128.slots.size ≤ ((1 : Int32)).toNatClampNeg) := inb_of Sz128 ⟨by decide, by decide⟩
  have hat129 : cl128.slots[((1 : Int32)).toNatClampNeg]? = some (.int b1) := Has.at Hh128 hin129 rfl
  have Fc130 := (Va107.other W119 ne_ba_pl)
  obtain ⟨cl131, Ar131, qk131, Sz131, Nz131, Hh131, Gg131⟩ := id Fc130
  have hin132 : ¬ ((1 : Int32) < 0 ∨ cl131.slots.size ≤ ((1 : Int32)).toNatClampNeg) := inb_of Sz131 ⟨by decide, by decide⟩
  obtain ⟨T133, h133, X133, e133, W133, st133⟩ := stI X126 hx hZ e126 Ar131 (j := (1 : Int32)) hin132 (g := (mkF m 18 #[oR r0, oR r1, oI 1] [(.int b1), (.int 1), (.ref ba)])) rfl rfl (hb hby d5_18)
  have Va133 := Arv.set Ar131 qk131 Sz131 Nz131 Hh131 Gg131 rfl W133 1 rfl (Nat.le_of_ble_eq_true rfl)
  have N133 := Fr.snoc X133 N119 g_ba
  have ZZ134 : n0 ≤ h133.size := Nat.le_trans ZZ120 (Nat.le_of_eq W133.size.symm)
  have KK135 : Keep h0 h133 [r0, ba, pl, ri, i0, i1, va] := KK121.wr W133 (Or.inl (List.mem_of_getElem? (i := 1) rfl))
  have Fc136 := ((Fc111.other W119 (Or.inl nq122)).other W133 (Or.inl nq110))
  obtain ⟨T137, X137, e137, st137⟩ := getF X133 hx hZ hown (host := "") (Or.inl (own_w hw 28 rfl)) Via.refl e133 Fc136 (g := (mkF m 20 #[oR r0, oR r1, oI 1] [(.ref r0)])) rfl rfl (hb hby d5_20)
  have Fc138 := (Fc127.other W133 ne_r1_ba)
  obtain ⟨cl139, Ar139, qk139, Sz139, Nz139, Hh139, Gg139⟩ := id Fc138
  have hin140 : ¬ ((1 : Int32) < 0 ∨ cl139.slots.size ≤ ((1 : Int32)).toNatClampNeg) := inb_of Sz139 ⟨by decide, by decide⟩
  have hat140 : cl139.slots[((1 : Int32)).toNatClampNeg]? = some (.int b1) := Has.at Hh139 hin140 rfl
  have Fc141 := (Va119.other W133 (Ne.symm ne_ba_pl))
  obtain ⟨cl142, Ar142, qk142, Sz142, Nz142, Hh142, Gg142⟩ := id Fc141
  have hin143 : ¬ (b1 < 0 ∨ cl142.slots.size ≤ (b1).toNatClampNeg) := inb_of Sz142 hi1
  obtain ⟨T144, h144, X144, e144, W144, st144⟩ := stI X137 hx hZ e137 Ar142 (j := b1) hin143 (g := (mkF m 27 #[oR r0, oR r1, oI 1] [(.int 1), (.int b1), (.ref pl)])) rfl rfl (hb hby d5_27)
  have Va144 := Arv.set Ar142 qk142 Sz142 Nz142 Hh142 Gg142 rfl W144 b1.toNatClampNeg rfl hl1
  have N144 := Fr.snoc X144 N133 g_pl
  have ZZ145 : n0 ≤ h144.size := Nat.le_trans ZZ134 (Nat.le_of_eq W144.size.symm)
  have KK146 : Keep h0 h144 [r0, ba, pl, ri, i0, i1, va] := KK135.wr W144 (Or.inl (List.mem_of_getElem? (i := 2) rfl))
  have Fc147 := ((Fc123.other W133 (Or.inl nq110)).other W144 (Or.inl nq122))
  obtain ⟨T148, X148, e148, st148⟩ := getF X144 hx hZ hown (host := "") (Or.inl (own_w hw 30 rfl)) Via.refl e144 Fc147 (g := (mkF m 4 #[oR r0, oR r1, oI 2] [(.ref r0), (.int 2)])) rfl rfl (hb hby d5_4)
  have Fc149 := ((((F_costs_r0.other W107 (Or.inl nq110)).other W119 (Or.inl nq122)).other W133 (Or.inl nq110)).other W144 (Or.inl nq122))
  have Fc150 := ((((F_free_r0.other W107 (Or.inl nq110)).other W119 (Or.inl nq122)).other W133 (Or.inl nq110)).other W144 (Or.inl nq122))
  have Fc151 := ((((F_entryRows_r0.other W107 (Or.inl nq110)).other W119 (Or.inl nq122)).other W133 (Or.inl nq110)).other W144 (Or.inl nq122))
  have Fc152 := ((((F_entryValues_r0.other W107 (Or.inl nq110)).other W119 (Or.inl nq122)).other W133 (Or.inl nq110)).other W144 (Or.inl nq122))
  have Fc153 := (Fc136.other W144 (Or.inl nq122))
  have Fc154 := ((((F_rhs_r0.other W107 (Or.inl nq110)).other W119 (Or.inl nq122)).other W133 (Or.inl nq110)).other W144 (Or.inl nq122))
  have Fc155 := ((Fc125.other W133 (Or.inl nq110)).other W144 (Or.inl nq122))
  have Fc156 := ((((F_inverse_r0.other W107 (Or.inl nq110)).other W119 (Or.inl nq122)).other W133 (Or.inl nq110)).other W144 (Or.inl nq122))
  have Fc157 := ((((F_values_r0.other W107 (Or.inl nq110)).other W119 (Or.inl nq122)).other W133 (Or.inl nq110)).other W144 (Or.inl nq122))
  have Fc158 := ((((F_columns_r0.other W107 (Or.inl nq110)).other W119 (Or.inl nq122)).other W133 (Or.inl nq110)).other W144 (Or.inl nq122))
  have Fc159 := ((((F_pivotsSinceRefresh_r0.other W107 (Or.inl nq110)).other W119 (Or.inl nq122)).other W133 (Or.inl nq110)).other W144 (Or.inl nq122))
  have Fc160 := (E_er.keep KK146)
  have Fc161 := ((((E_r0.wr W107).wr W119).wr W133).wr W144)
  have nq162 : er ≠ r0 := (ne_exa Fc160 Fc161 (by decide))
  have Fc163 := ((((E_ba.wr W107).wr W119).wr W133).wr W144)
  have nq164 : er ≠ ba := (ne_exa Fc160 Fc163 (by decide))
  have Fc165 := ((((E_pl.wr W107).wr W119).wr W133).wr W144)
  have nq166 : er ≠ pl := (ne_exa Fc160 Fc165 (by decide))
  have Fc167 := ((((E_ri.wr W107).wr W119).wr W133).wr W144)
  have nq168 : er ≠ ri := (ne_exa Fc160 Fc167 (by decide))
  have Fc169 := ((((E_i0.wr W107).wr W119).wr W133).wr W144)
  have nq170 : er ≠ i0 := (ne_exa Fc160 Fc169 (by decide))
  have Fc171 := ((((E_i1.wr W107).wr W119).wr W133).wr W144)
  have nq172 : er ≠ i1 := (ne_exa Fc160 Fc171 (by decide))
  have Fc173 := ((((E_va.wr W107).wr W119).wr W133).wr W144)
  have nq174 : er ≠ va := (ne_exa Fc160 Fc173 (by decide))
  have Fc175 := (V_er.keep KK146 (ninS nq162 (ninS nq164 (ninS nq166 (ninS nq168 (ninS nq170 (ninS nq172 (ninS nq174 nin0))))))))
  have Fc176 := (E_ev.keep KK146)
  have nq177 : ev ≠ r0 := (ne_exa Fc176 Fc161 (by decide))
  have nq178 : ev ≠ ba := (ne_exa Fc176 Fc163 (by decide))
  have nq179 : ev ≠ pl := (ne_exa Fc176 Fc165 (by decide))
  have Fc180 := ((((V_ev.other W107 nq178).other W119 nq179).other W133 nq178).other W144 nq179)
  have Fc181 := (E_rh.keep KK146)
  have nq182 : rh ≠ r0 := (ne_exa Fc181 Fc161 (by decide))
  have nq183 : rh ≠ ba := (ne_exa Fc181 Fc163 (by decide))
  have nq184 : rh ≠ pl := (ne_exa Fc181 Fc165 (by decide))
  have nq185 : rh ≠ ri := (ne_exa Fc181 Fc167 (by decide))
  have Fc186 := (V_rh.keep KK146 (ninS nq182 (ninS nq183 (ninS nq184 (ninS nq185 (ninS ne_rh_i0 (ninS ne_rh_i1 (ninS ne_rh_va nin0))))))))
  have Fc187 := (Va133.other W144 ne_ba_pl)
  have nq188 : ri ≠ ba := (ne_exa Fc167 Fc163 (by decide))
  have nq189 : ri ≠ pl := (ne_exa Fc167 Fc165 (by decide))
  have Fc190 := ((((V_ri.other W107 nq188).other W119 nq189).other W133 nq188).other W144 nq189)
  have nq191 : i0 ≠ ba := (ne_exa Fc169 Fc163 (by decide))
  have nq192 : i0 ≠ pl := (ne_exa Fc169 Fc165 (by decide))
  have Fc193 := ((((V_i0.other W107 nq191).other W119 nq192).other W133 nq191).other W144 nq192)
  have nq194 : i1 ≠ ba := (ne_exa Fc171 Fc163 (by decide))
  have nq195 : i1 ≠ pl := (ne_exa Fc171 Fc165 (by decide))
  have Fc196 := ((((V_i1.other W107 nq194).other W119 nq195).other W133 nq194).other W144 nq195)
  have nq197 : va ≠ ba := (ne_exa Fc173 Fc163 (by decide))
  have nq198 : va ≠ pl := (ne_exa Fc173 Fc165 (by decide))
  have Fc199 := ((((V_va.other W107 nq197).other W119 nq198).other W133 nq197).other W144 nq198)
  have Fc200 := (E_e1.keep KK146)
  have nq201 : e1 ≠ r0 := (ne_exa Fc200 Fc161 (by decide))
  have nq202 : e1 ≠ ri := (ne_exa Fc200 Fc167 (by decide))
  have nq203 : e1 ≠ i0 := (ne_exa Fc200 Fc169 (by decide))
  have nq204 : e1 ≠ i1 := (ne_exa Fc200 Fc171 (by decide))
  have nq205 : e1 ≠ va := (ne_exa Fc200 Fc173 (by decide))
  have Fc206 := (V_e1.keep KK146 (ninS nq201 (ninS (Ne.symm ne_ba_e1) (ninS (Ne.symm ne_pl_e1) (ninS nq202 (ninS nq203 (ninS nq204 (ninS nq205 nin0))))))))
  have Fc207 := (E_e2.keep KK146)
  have nq208 : e2 ≠ r0 := (ne_exa Fc207 Fc161 (by decide))
  have nq209 : e2 ≠ ri := (ne_exa Fc207 Fc167 (by decide))
  have nq210 : e2 ≠ i0 := (ne_exa Fc207 Fc169 (by decide))
  have nq211 : e2 ≠ i1 := (ne_exa Fc207 Fc171 (by decide))
  have nq212 : e2 ≠ va := (ne_exa Fc207 Fc173 (by decide))
  have Fc213 := (V_e2.keep KK146 (ninS nq208 (ninS (Ne.symm ne_ba_e2) (ninS (Ne.symm ne_pl_e2) (ninS nq209 (ninS nq210 (ninS nq211 (ninS nq212 nin0))))))))
  have Fc214 := (E_f1.keep KK146)
  have nq215 : f1 ≠ r0 := (ne_exa Fc214 Fc161 (by decide))
  have nq216 : f1 ≠ ba := (ne_exa Fc214 Fc163 (by decide))
  have nq217 : f1 ≠ pl := (ne_exa Fc214 Fc165 (by decide))
  have nq218 : f1 ≠ ri := (ne_exa Fc214 Fc167 (by decide))
  have Fc219 := ((((V_f1.other W107 nq216).other W119 nq217).other W133 nq216).other W144 nq217)
  have Fc220 := (E_f2.keep KK146)
  have nq221 : f2 ≠ r0 := (ne_exa Fc220 Fc161 (by decide))
  have nq222 : f2 ≠ ba := (ne_exa Fc220 Fc163 (by decide))
  have nq223 : f2 ≠ pl := (ne_exa Fc220 Fc165 (by decide))
  have nq224 : f2 ≠ ri := (ne_exa Fc220 Fc167 (by decide))
  have Fc225 := ((((V_f2.other W107 nq222).other W119 nq223).other W133 nq222).other W144 nq223)
  obtain ⟨_, T226, L226, X226, hQ226, st226⟩ := own_cP X148 hx hZ hw hown (b := r0) (W := 0) (rm6A l Z a0 hw [] r0 co fr er ev pl rh ba ri va i0 i1 e1 e2 f1 f2 ker kev krh kba kri ki kva ke1 ke2 kf1 kf2 wE wF wC d0 d1 ee g0 g1 i00 i01 i10 i11 pp pq b0 b1 h144 n0 ZZ145 Fc149 Fc150 Fc151 Fc152 Fc153 Fc147 Fc154 Fc155 Fc156 Fc157 Fc158 Fc159 Fc175 Fc180 Fc186 Fc187 Fc190 Fc193 Fc196 Fc199 Fc206 Fc213 Fc219 Fc225 Fc161 Fc160 Fc176 Fc181 Fc163 Fc167 Fc169 Fc171 Fc173 Fc200 Fc207 Fc214 Fc220 O_ri g_r0 g_ri g_i0 g_i1 g_va ne_i0_i1 ne_f1_i0 ne_f1_i1 ne_f2_i0 ne_f2_i1 ne_va_i0 ne_va_i1 ne_rh_i0 ne_rh_i1 ne_rh_va hn0 hn1 hne hpq hbb hH) (by decide) (by decide) (by decide) 67 rfl 68 rfl 69 rfl 70 rfl 7 rfl (own_selP (y := (⟨own_K1, "refresh", "()Z"⟩ : MethodName)) (y2 := (⟨own_K1, "add", "(D[I[DZ)I"⟩ : MethodName)) (own_w hw 53 rfl) rfl (own_w hw 69 rfl) (own_w hw 68 rfl) (by decide)) e148 Fc161 (g := (mkF m 35 #[oR r0, oR r1, oI 2] [(.ref r0)])) rfl (by rw [hml]; rfl) (argsL := []) (rest := []) (lenOf pd4 rfl) rfl (Nat.le_of_eq rfl) (hb hby d5_35) rfl (cN := 3) rfl (by decide) (sN := 6) rfl (by decide)
  obtain ⟨j0_226, j1_226, rfl, Nq226, P226_0, P226_1, P226_2, P226_3, P226_4, P226_5, P226_6, P226_7, P226_8, P226_9, P226_10, P226_11, P226_12, P226_13, P226_14, P226_15, P226_16, P226_17, P226_18⟩ := hQ226
  have N226 := Fr.app N144 Nq226
  have ZZ227 : n0 ≤ T226.heap.size := Nat.le_trans ZZ145 P226_0.1
  have KK228 : Keep h0 T226.heap [r0, ba, pl, ri, i0, i1, va] := Keep.trans KK146 P226_0 (allS (Or.inl (List.mem_of_getElem? (i := 0) rfl)) (allS (Or.inl (List.mem_of_getElem? (i := 3) rfl)) (allS (Or.inl (List.mem_of_getElem? (i := 4) rfl)) (allS (Or.inl (List.mem_of_getElem? (i := 5) rfl)) (allS (Or.inl (List.mem_of_getElem? (i := 6) rfl)) all0)))))
  have Fc229 := (E_fr.keep KK228)
  have nq230 : fr ≠ r0 := (ne_exa Fc229 P226_12 (by decide))
  have nq231 : fr ≠ ba := (ne_exa Fc229 (Fc163.keep P226_0) (by decide))
  have nq232 : fr ≠ pl := (ne_exa Fc229 (Fc165.keep P226_0) (by decide))
  have nq233 : fr ≠ ri := (ne_exa Fc229 (Fc167.keep P226_0) (by decide))
  have nq234 : fr ≠ i0 := (ne_exa Fc229 (Fc169.keep P226_0) (by decide))
  have nq235 : fr ≠ i1 := (ne_exa Fc229 (Fc171.keep P226_0) (by decide))
  have nq236 : fr ≠ va := (ne_exa Fc229 (Fc173.keep P226_0) (by decide))
  have Fc237 := (V_fr.keep KK228 (ninS nq230 (ninS nq231 (ninS nq232 (ninS nq233 (ninS nq234 (ninS nq235 (ninS nq236 nin0))))))))
  have Fc238 := (Fc187.keep P226_0 (ninS (Ne.symm nq110) (ninS (Ne.symm nq188) (ninS (Ne.symm nq191) (ninS (Ne.symm nq194) (ninS (Ne.symm nq197) nin0))))))
  obtain ⟨_, T239, L239, X239, hQ239, st239⟩ := own_cP X226 hx hZ hw hown (b := r0) (W := 0) (rmm10 l Z a0 hw [] r0 fr ba va kfr kba kva b0 b1 T226.heap n0 ZZ227 P226_6 P226_2 P226_8 P226_10 P226_12 Fc237 Fc238 P226_16 hi0 hi1 hf0 hf1) (by decide) (by decide) (by decide) 85 rfl 86 rfl 87 rfl 88 rfl 7 rfl (own_selP (y := (⟨own_K1, "leastBoundedValue", "()D"⟩ : MethodName)) (y2 := (⟨own_K1, "add", "(D[I[DZ)I"⟩ : MethodName)) (own_w hw 53 rfl) rfl (own_w hw 87 rfl) (own_w hw 86 rfl) (by decide)) rfl P226_12 (g := (mkF m 42 #[oR r0, oR r1, oI 2] [(.ref r0)])) rfl (by rw [hml]; rfl) (argsL := []) (rest := []) (lenOf pd5 rfl) rfl (Nat.le_of_eq rfl) (hb hby d5_42) rfl (cN := 3) rfl (by decide) (sN := 6) rfl (by decide)
  obtain ⟨rfl, Nq239, P239_0⟩ := hQ239
  have N239 := Fr.app N226 Nq239
  obtain ⟨fs, hr, hrun, hended, hW, hsame⟩ := X239.leave (v := some (.int 1)) (fun h => by rw [Bd.returns] at h; cases h)
  refine ⟨_, _, pre0 _ ?_, hrun, hended, _, _, rfl, ?_, ⟨_, rfl⟩, hW, hsame.mono (by decide) (by decide)⟩
  · show own_S p e below s₁ m 0 #[oR r0, oR r1, oU] [] _
    refine XS.iconst X0.here hx rfl (hb hby d5_0) ?_
    refine XS.istoreN X0.here hx rfl (hb hby d5_1) rfl (l' := #[oR r0, oR r1, oI 0]) rfl ?_
    refine XS.iloadN X0.here hx rfl (hb hby d5_2) rfl ?_
    refine XS.aloadN X0.here hx rfl (hb hby d5_3) rfl rfl ?_
    show own_S p e below s₁ m 4 _ [(.ref r0), (.int 0)] _
    refine st101 _ ?_
    show own_S p e below T101 m 7 _ [(.int 2), (.int 0)] _
    refine XS.icmpNo X101.here hx rfl (hb hby d5_7) rfl (tlt (by decide : (0 : Int32) < (2 : Int32))).2.1 ?_
    refine XS.aloadN X101.here hx rfl (hb hby d5_10) rfl rfl ?_
    show own_S p e below T101 m 11 _ [(.ref r0)] _
    refine st102 _ ?_
    show own_S p e below T102 m 14 _ [(.ref ba)] _
    refine XS.iloadN X102.here hx rfl (hb hby d5_14) rfl ?_
    refine XS.aloadN X102.here hx rfl (hb hby d5_15) rfl rfl ?_
    refine XS.iloadN X102.here hx rfl (hb hby d5_16) rfl ?_
    show own_S p e below T102 m 17 _ [(.int 0), (.ref r1), (.int 0), (.ref ba)] _
    refine X102.iaload hx (j := (0 : Int32)) (v := (.int b0)) (by rw [e102]; exact Ar103.1) (State.isArrayOf_alike hZ.alike Ar103.2.1) Ar103.2.2 hin104 hat104 (g := (mkF m 17 #[oR r0, oR r1, oI 0] [(.int 0), (.ref r1), (.int 0), (.ref ba)])) rfl rfl (hb hby d5_17) _ ?_
    show own_S p e below T102 m 18 _ [(.int b0), (.int 0), (.ref ba)] _
    refine st107 _ ?_
    show own_S p e below T107 m 19 _ [] _
    refine XS.aloadN X107.here hx rfl (hb hby d5_19) rfl rfl ?_
    show own_S p e below T107 m 20 _ [(.ref r0)] _
    refine st112 _ ?_
    show own_S p e below T112 m 23 _ [(.ref pl)] _
    refine XS.aloadN X112.here hx rfl (hb hby d5_23) rfl rfl ?_
    refine XS.iloadN X112.here hx rfl (hb hby d5_24) rfl ?_
    show own_S p e below T112 m 25 _ [(.int 0), (.ref r1), (.ref pl)] _
    refine X112.iaload hx (j := (0 : Int32)) (v := (.int b0)) (by rw [e112]; exact Ar114.1) (State.isArrayOf_alike hZ.alike Ar114.2.1) Ar114.2.2 hin115 hat115 (g := (mkF m 25 #[oR r0, oR r1, oI 0] [(.int 0), (.ref r1), (.ref pl)])) rfl rfl (hb hby d5_25) _ ?_
    show own_S p e below T112 m 26 _ [(.int b0), (.ref pl)] _
    refine XS.iloadN X112.here hx rfl (hb hby d5_26) rfl ?_
    show own_S p e below T112 m 27 _ [(.int 0), (.int b0), (.ref pl)] _
    refine st119 _ ?_
    show own_S p e below T119 m 28 _ [] _
    refine XS.iinc X119.here hx rfl (hb hby d5_28) rfl (l' := #[oR r0, oR r1, oI 1]) rfl ?_
    refine XS.goto X119.here hx rfl (pc0 := 31) (pc' := 2) rfl (hb hby d5_31) (by decide) (by decide) ?_
    refine XS.iloadN X119.here hx rfl (hb hby d5_2) rfl ?_
    refine XS.aloadN X119.here hx rfl (hb hby d5_3) rfl rfl ?_
    show own_S p e below T119 m 4 _ [(.ref r0), (.int 1)] _
    refine st124 _ ?_
    show own_S p e below T124 m 7 _ [(.int 2), (.int 1)] _
    refine XS.icmpNo X124.here hx rfl (hb hby d5_7) rfl (tlt (by decide : (1 : Int32) < (2 : Int32))).2.1 ?_
    refine XS.aloadN X124.here hx rfl (hb hby d5_10) rfl rfl ?_
    show own_S p e below T124 m 11 _ [(.ref r0)] _
    refine st126 _ ?_
    show own_S p e below T126 m 14 #[oR r0, oR r1, oI 1] [(.ref ba)] _
    refine XS.iloadN X126.here hx rfl (hb hby d5_14) rfl ?_
    refine XS.aloadN X126.here hx rfl (hb hby d5_15) rfl rfl ?_
    refine XS.iloadN X126.here hx rfl (hb hby d5_16) rfl ?_
    show own_S p e below T126 m 17 _ [(.int 1), (.ref r1), (.int 1), (.ref ba)] _
    refine X126.iaload hx (j := (1 : Int32)) (v := (.int b1)) (by rw [e126]; exact Ar128.1) (State.isArrayOf_alike hZ.alike Ar128.2.1) Ar128.2.2 hin129 hat129 (g := (mkF m 17 #[oR r0, oR r1, oI 1] [(.int 1), (.ref r1), (.int 1), (.ref ba)])) rfl rfl (hb hby d5_17) _ ?_
    show own_S p e below T126 m 18 _ [(.int b1), (.int 1), (.ref ba)] _
    refine st133 _ ?_
    show own_S p e below T133 m 19 _ [] _
    refine XS.aloadN X133.here hx rfl (hb hby d5_19) rfl rfl ?_
    show own_S p e below T133 m 20 _ [(.ref r0)] _
    refine st137 _ ?_
    show own_S p e below T137 m 23 #[oR r0, oR r1, oI 1] [(.ref pl)] _
    refine XS.aloadN X137.here hx rfl (hb hby d5_23) rfl rfl ?_
    refine XS.iloadN X137.here hx rfl (hb hby d5_24) rfl ?_
    show own_S p e below T137 m 25 _ [(.int 1), (.ref r1), (.ref pl)] _
    refine X137.iaload hx (j := (1 : Int32)) (v := (.int b1)) (by rw [e137]; exact Ar139.1) (State.isArrayOf_alike hZ.alike Ar139.2.1) Ar139.2.2 hin140 hat140 (g := (mkF m 25 #[oR r0, oR r1, oI 1] [(.int 1), (.ref r1), (.ref pl)])) rfl rfl (hb hby d5_25) _ ?_
    show own_S p e below T137 m 26 _ [(.int b1), (.ref pl)] _
    refine XS.iloadN X137.here hx rfl (hb hby d5_26) rfl ?_
    show own_S p e below T137 m 27 _ [(.int 1), (.int b1), (.ref pl)] _
    refine st144 _ ?_
    show own_S p e below T144 m 28 _ [] _
    refine XS.iinc X144.here hx rfl (hb hby d5_28) rfl (l' := #[oR r0, oR r1, oI 2]) rfl ?_
    refine XS.goto X144.here hx rfl (pc0 := 31) (pc' := 2) rfl (hb hby d5_31) (by decide) (by decide) ?_
    refine XS.iloadN X144.here hx rfl (hb hby d5_2) rfl ?_
    refine XS.aloadN X144.here hx rfl (hb hby d5_3) rfl rfl ?_
    show own_S p e below T144 m 4 _ [(.ref r0), (.int 2)] _
    refine st148 _ ?_
    show own_S p e below T148 m 7 _ [(.int 2), (.int 2)] _
    refine XS.icmpYes X148.here hx rfl (pc0 := 7) (pc' := 34) rfl (hb hby d5_7) rfl (flt (by decide : ¬ ((2 : Int32) < (2 : Int32)))).2.1 (by decide) (by decide) ?_
    refine XS.aloadN X148.here hx rfl (hb hby d5_34) rfl rfl ?_
    show own_S p e below T148 m 35 _ [(.ref r0)] _
    refine st226.trans ?_
    show own_S p e below T226 m 38 #[oR r0, oR r1, oI 2] [(.int 1)] _
    refine XS.ifNo X226.here hx rfl (hb hby d5_38) rfl ((if0 _ _).trans (feq (by decide : ¬ ((1 : Int32) = (0 : Int32)))).1) ?_
    refine XS.aloadN X226.here hx rfl (hb hby d5_41) rfl rfl ?_
    show own_S p e below T226 m 42 _ [(.ref r0)] _
    refine st239.trans ?_
    show own_S p e below T239 m 45 _ [(.double 4607182418800017408)] _
    refine X239.ldc2DoubleC hx hown (mvT hZ (own_w hw 93 rfl)) (g := (mkF m 45 #[oR r0, oR r1, oI 2] [(.double 4607182418800017408)])) rfl (hb hby d5_45) _ ?_
    show own_S p e below T239 m 48 _ [(.double 13650858631089744401), (.double 4607182418800017408)] _
    refine XS.dcmpS X239.here hx rfl (v := (1 : Int32)) (hb hby d5_48) rfl (by decide +kernel) ?_
    show own_S p e below T239 m 49 _ [(.int 1)] _
    refine XS.ifNo X239.here hx rfl (hb hby d5_49) rfl ((if0 _ _).trans (flt (by decide : ¬ ((1 : Int32) < (0 : Int32)))).1) ?_
    refine XS.iconst X239.here hx rfl (hb hby d5_52) ?_
    refine XS.goto X239.here hx rfl (pc0 := 53) (pc' := 57) rfl (hb hby d5_53) (by decide) (by decide) ?_
    show own_S p e below T239 m 57 _ [(.int 1)] _
    exact retN X239 hx (t := .boolean) Bd.returns (by simp) (hb hby d5_57) hr
  · show Qm5 Z r0 r1 co fr er ev pl rh ba ri va i0 i1 e1 e2 f1 f2 ker kev krh kba kri ki kva ke1 ke2 kf1 kf2 wE wF wC d0 d1 ee g0 g1 i00 i01 i10 i11 pp pq b0 b1 k1 kpl kfr vp h0 n0 _ T239.heap _
    rw [P239_0]
    exact ⟨j0_226, j1_226, rfl, N239, KK228, P226_1, P226_2, P226_3, P226_4, P226_5, P226_6, P226_7, P226_8, P226_9, P226_10, P226_11, P226_12, P226_13, P226_14, P226_15, P226_16, P226_17, P226_18, Fc238⟩
theorem d12_29 : decode k12 29 = .ok (.dload_n 3, 1) := by decide +kernel
theorem d12_30 : decode k12 30 = .ok (.dconst 0, 1) := by decide +kernel
theorem d12_31 : decode k12 31 = .ok (.dcmp .l, 1) := by decide +kernel
theorem d12_32 : decode k12 32 = .ok (.ifCond .eq 39, 3) := by decide +kernel
theorem d12_35 : decode k12 35 = .ok (.iconst 0, 1) := by decide +kernel
theorem d12_36 : decode k12 36 = .ok (.istore 5, 2) := by decide +kernel
theorem d12_38 : decode k12 38 = .ok (.iload 5, 2) := by decide +kernel
theorem d12_40 : decode k12 40 = .ok (.aload_n 0, 1) := by decide +kernel
theorem d12_41 : decode k12 41 = .ok (.getfield 31, 3) := by decide +kernel
theorem d12_44 : decode k12 44 = .ok (.if_icmp .ge 27, 3) := by decide +kernel
theorem d12_47 : decode k12 47 = .ok (.aload_n 1, 1) := by decide +kernel
theorem d12_48 : decode k12 48 = .ok (.iload 5, 2) := by decide +kernel
theorem d12_50 : decode k12 50 = .ok (.dup2, 1) := by decide +kernel
theorem d12_51 : decode k12 51 = .ok (.daload, 1) := by decide +kernel
theorem d12_52 : decode k12 52 = .ok (.dload_n 3, 1) := by decide +kernel
theorem d12_53 : decode k12 53 = .ok (.aload_n 0, 1) := by decide +kernel
theorem d12_54 : decode k12 54 = .ok (.getfield 46, 3) := by decide +kernel
theorem d12_57 : decode k12 57 = .ok (.iload_n 2, 1) := by decide +kernel
theorem d12_58 : decode k12 58 = .ok (.aaload, 1) := by decide +kernel
theorem d12_59 : decode k12 59 = .ok (.iload 5, 2) := by decide +kernel
theorem d12_61 : decode k12 61 = .ok (.daload, 1) := by decide +kernel
theorem d12_62 : decode k12 62 = .ok (.dmul, 1) := by decide +kernel
theorem d12_63 : decode k12 63 = .ok (.dadd, 1) := by decide +kernel
theorem d12_64 : decode k12 64 = .ok (.dastore, 1) := by decide +kernel
theorem d12_65 : decode k12 65 = .ok (.iinc 5 1, 3) := by decide +kernel
theorem d12_68 : decode k12 68 = .ok (.goto (-30), 3) := by decide +kernel
set_option maxRecDepth 65536 in
set_option maxHeartbeats 40000000 in
theorem own_MS (l : Launch) (Z : State) (a0 : Array Value) (hw : own_HW Z a0) (r0 : Addr) (ry : Addr) (ri : Addr) (j0 : Addr) (j1 : Addr) (rj : Addr) (kri : ClassId) (ki : ClassId) (ky : ClassId) (kk : Int32) (s5 : Slot) (cq : UInt64) (v0 : UInt64) (v1 : UInt64) (z0 : UInt64) (z1 : UInt64) (h0 : Heap) (n0 : Nat) (Z0 : n0 ≤ h0.size) (F_rows_r0 : Fld Z h0 r0 own_K1 "rows" "I" (.int 2)) (F_inverse_r0 : Fld Z h0 r0 own_K1 "inverse" "[[D" (.ref ri)) (V_ri : Arv Z h0 ri kri (.array .double) (2 : Int32) [(.ref j0), (.ref j1)] .null) (V_rj : Arv Z h0 rj ki .double (2 : Int32) [(.double v0), (.double v1)] (.double 0)) (V_ry : Arv Z h0 ry ky .double (2 : Int32) [(.double z0), (.double z1)] (.double 0)) (E_r0 : Exa Z h0 r0 own_K1) (E_ri : Exa Z h0 ri "[[D") (E_ry : Exa Z h0 ry "[D") (g_ry : n0 ≤ ry) (ne_rj_ry : rj ≠ ry) (hkk : ¬ kk < (0 : Int32) ∧ kk < (2 : Int32)) (hkg : ([.ref j0, .ref j1] : List Value).getD kk.toNatClampNeg .null = .ref rj) (hM : own_okM cq v0 v1 z0 z1) (hs5 : One s5)
    {p : Program} {e : Env} {s : State} {m : MethodId} {args : Array Value} {below : List Frame} {meth : Method} {c : Code} {s₁ : State} {Lc : List Loc} (hx : p.tables.exec = Jvm.exec) (hby : c.code = prog_41_method_4_code) (hml : c.maxLocals = 6) (hZ : Z.Warmed39 s.vm) (hown : s.vm.findClass own_K1 = some m.cls) (hnm : meth.name = "multipliers") (X0 : Stand p l e ({ frames := 0, cells := 1, slots := 2, locals := 0 } : Room) s m args below meth c s₁ Lc 1 2) (e0 : s₁.heap = h0) (N0 : Fr n0 Lc) :
    ∃ s5' : Slot, ∃ T : State, ∃ L : List Loc, Stand p l e ({ frames := 0, cells := 1, slots := 2, locals := 0 } : Room) s m args below meth c T L 1 2 ∧ Fr n0 L ∧ (Keep h0 T.heap [ry]) ∧ (Arv Z T.heap ry ky .double (2 : Int32) [(.double (own_ax cq z0 v0)), (.double (own_ax cq z1 v1))] (.double 0)) ∧ (One s5') ∧ ∀ t, Steps p.tables e below (T.setTop (mkF m 71 #[oR r0, oR ry, oI kk, oD cq, oV, s5'] [])) t → Steps p.tables e below (s₁.setTop (mkF m 29 #[oR r0, oR ry, oI kk, oD cq, oV, s5] [])) t := by
  have pre101 : ∀ t, Steps p.tables e below (s₁.setTop (mkF m 32 #[oR r0, oR ry, oI kk, oD cq, oV, s5] [(.int (cmpValue (FP.dcmp cq (0 : UInt64)) .l))])) t → Steps p.tables e below (s₁.setTop (mkF m 29 #[oR r0, oR ry, oI kk, oD cq, oV, s5] [])) t := by
    intro t kt
    show own_S p e below s₁ m 29 #[oR r0, oR ry, oI kk, oD cq, oV, s5] [] _
    refine XS.dloadN X0.here hx rfl (hb hby d12_29) rfl ?_
    refine XS.dconst0 X0.here hx rfl (v := 0) (hb hby d12_30) rfl ?_
    show own_S p e below s₁ m 31 _ [(.double 0), (.double cq)] _
    refine XS.dcmpS X0.here hx rfl (v := (cmpValue (FP.dcmp cq (0 : UInt64)) .l)) (hb hby d12_31) rfl rfl ?_
    exact kt
  by_cases hz : (cmpValue (FP.dcmp cq (0 : UInt64)) .l) = (0 : Int32)
  · skip
    refine ⟨s5, _, _, X0, N0, (by rw [e0]; exact (Keep.refl h0 [ry])), (by rw [e0]; exact (by rw [own_az hz]; exact V_ry)), hs5, fun t kt => ?_⟩
    refine pre101 _ ?_
    show own_S p e below s₁ m 32 #[oR r0, oR ry, oI kk, oD cq, oV, s5] [(.int (cmpValue (FP.dcmp cq (0 : UInt64)) .l))] _
    refine XS.ifYes X0.here hx rfl (pc0 := 32) (pc' := 71) rfl (hb hby d12_32) rfl ((if0 _ _).trans (teq (hz : (cmpValue (FP.dcmp cq (0 : UInt64)) .l) = (0 : Int32))).1) (by decide) (by decide) ?_
    exact kt
  · skip
    obtain ⟨T102, X102, e102, st102⟩ := getF X0 hx hZ hown (host := "") (Or.inl (own_w hw 30 rfl)) Via.refl e0 F_rows_r0 (g := (mkF m 41 #[oR r0, oR ry, oI kk, oD cq, oV, oI 0] [(.ref r0), (.int 0)])) rfl rfl (hb hby d12_41)
    obtain ⟨cl103, Ar103, qk103, Sz103, Nz103, Hh103, Gg103⟩ := id V_ry
    have hin104 : ¬ ((0 : Int32) < 0 ∨ cl103.slots.size ≤ ((0 : Int32)).toNatClampNeg) := inb_of Sz103 ⟨by decide, by decide⟩
    have hat104 : cl103.slots[((0 : Int32)).toNatClampNeg]? = some (.double z0) := Has.at Hh103 hin104 rfl
    obtain ⟨T105, X105, e105, st105⟩ := getF X102 hx hZ hown (host := "") (Or.inl (own_w hw 45 rfl)) Via.refl e102 F_inverse_r0 (g := (mkF m 54 #[oR r0, oR ry, oI kk, oD cq, oV, oI 0] [(.ref r0), (.double cq), (.double z0), (.int 0), (.ref ry)])) rfl rfl (hb hby d12_54)
    obtain ⟨cl106, Ar106, qk106, Sz106, Nz106, Hh106, Gg106⟩ := id V_ri
    have hin107 : ¬ (kk < 0 ∨ cl106.slots.size ≤ (kk).toNatClampNeg) := inb_of Sz106 hkk
    have hat107 : cl106.slots[(kk).toNatClampNeg]? = some (.ref rj) := Has.at Hh106 hin107 hkg
    obtain ⟨cl108, Ar108, qk108, Sz108, Nz108, Hh108, Gg108⟩ := id V_rj
    have hin109 : ¬ ((0 : Int32) < 0 ∨ cl108.slots.size ≤ ((0 : Int32)).toNatClampNeg) := inb_of Sz108 ⟨by decide, by decide⟩
    have hat109 : cl108.slots[((0 : Int32)).toNatClampNeg]? = some (.double v0) := Has.at Hh108 hin109 rfl
    have hin110 : ¬ ((0 : Int32) < 0 ∨ cl103.slots.size ≤ ((0 : Int32)).toNatClampNeg) := inb_of Sz103 ⟨by decide, by decide⟩
    obtain ⟨T111, h111, X111, e111, W111, st111⟩ := stD X105 hx hZ e105 Ar103 (j := (0 : Int32)) hin110 (g := (mkF m 64 #[oR r0, oR ry, oI kk, oD cq, oV, oI 0] [(.double (FP.dadd z0 (FP.dmul cq v0))), (.int 0), (.ref ry)])) rfl rfl (hb hby d12_64)
    have Va111 := Arv.set Ar103 qk103 Sz103 Nz103 Hh103 Gg103 rfl W111 0 rfl (Nat.le_of_ble_eq_true rfl)
    have N111 := Fr.snoc X111 N0 g_ry
    have ZZ112 : n0 ≤ h111.size := Nat.le_trans Z0 (Nat.le_of_eq W111.size.symm)
    have KK113 : Keep h0 h111 [ry] := (Keep.refl h0 [ry]).wr W111 (Or.inl (List.mem_of_getElem? (i := 0) rfl))
    have nq114 : r0 ≠ ry := (ne_exa (E_r0.wr W111) (E_ry.wr W111) (by decide))
    have Fc115 := (F_rows_r0.other W111 (Or.inl nq114))
    obtain ⟨T116, X116, e116, st116⟩ := getF X111 hx hZ hown (host := "") (Or.inl (own_w hw 30 rfl)) Via.refl e111 Fc115 (g := (mkF m 41 #[oR r0, oR ry, oI kk, oD cq, oV, oI 1] [(.ref r0), (.int 1)])) rfl rfl (hb hby d12_41)
    obtain ⟨cl117, Ar117, qk117, Sz117, Nz117, Hh117, Gg117⟩ := id Va111
    have hin118 : ¬ ((1 : Int32) < 0 ∨ cl117.slots.size ≤ ((1 : Int32)).toNatClampNeg) := inb_of Sz117 ⟨by decide, by decide⟩
    have hat118 : cl117.slots[((1 : Int32)).toNatClampNeg]? = some (.double z1) := Has.at Hh117 hin118 rfl
    have Fc119 := (F_inverse_r0.other W111 (Or.inl nq114))
    obtain ⟨T120, X120, e120, st120⟩ := getF X116 hx hZ hown (host := "") (Or.inl (own_w hw 45 rfl)) Via.refl e116 Fc119 (g := (mkF m 54 #[oR r0, oR ry, oI kk, oD cq, oV, oI 1] [(.ref r0), (.double cq), (.double z1), (.int 1), (.ref ry)])) rfl rfl (hb hby d12_54)
    have nq121 : ri ≠ ry := (ne_exa (E_ri.wr W111) (E_ry.wr W111) (by decide))
    obtain ⟨cl122, Ar122, qk122, Sz122, Nz122, Hh122, Gg122⟩ := id (V_ri.other W111 nq121)
    have hin123 : ¬ (kk < 0 ∨ cl122.slots.size ≤ (kk).toNatClampNeg) := inb_of Sz122 hkk
    have hat123 : cl122.slots[(kk).toNatClampNeg]? = some (.ref rj) := Has.at Hh122 hin123 hkg
    have Fc124 := (V_rj.other W111 ne_rj_ry)
    obtain ⟨cl125, Ar125, qk125, Sz125, Nz125, Hh125, Gg125⟩ := id Fc124
    have hin126 : ¬ ((1 : Int32) < 0 ∨ cl125.slots.size ≤ ((1 : Int32)).toNatClampNeg) := inb_of Sz125 ⟨by decide, by decide⟩
    have hat126 : cl125.slots[((1 : Int32)).toNatClampNeg]? = some (.double v1) := Has.at Hh125 hin126 rfl
    have hin127 : ¬ ((1 : Int32) < 0 ∨ cl117.slots.size ≤ ((1 : Int32)).toNatClampNeg) := inb_of Sz117 ⟨by decide, by decide⟩
    obtain ⟨T128, h128, X128, e128, W128, st128⟩ := stD X120 hx hZ e120 Ar117 (j := (1 : Int32)) hin127 (g := (mkF m 64 #[oR r0, oR ry, oI kk, oD cq, oV, oI 1] [(.double (FP.dadd z1 (FP.dmul cq v1))), (.int 1), (.ref ry)])) rfl rfl (hb hby d12_64)
    have Va128 := Arv.set Ar117 qk117 Sz117 Nz117 Hh117 Gg117 rfl W128 1 rfl (Nat.le_of_ble_eq_true rfl)
    have N128 := Fr.snoc X128 N111 g_ry
    have ZZ129 : n0 ≤ h128.size := Nat.le_trans ZZ112 (Nat.le_of_eq W128.size.symm)
    have KK130 : Keep h0 h128 [ry] := KK113.wr W128 (Or.inl (List.mem_of_getElem? (i := 0) rfl))
    have Fc131 := (Fc115.other W128 (Or.inl nq114))
    obtain ⟨T132, X132, e132, st132⟩ := getF X128 hx hZ hown (host := "") (Or.inl (own_w hw 30 rfl)) Via.refl e128 Fc131 (g := (mkF m 41 #[oR r0, oR ry, oI kk, oD cq, oV, oI 2] [(.ref r0), (.int 2)])) rfl rfl (hb hby d12_41)
    refine ⟨(.val (.int 2)), _, _, X132, N128, (by rw [e132]; exact KK130), (by rw [e132]; exact (by rw [own_an hz]; exact Va128)), (One.val rfl), fun t kt => ?_⟩
    refine pre101 _ ?_
    show own_S p e below s₁ m 32 #[oR r0, oR ry, oI kk, oD cq, oV, s5] [(.int (cmpValue (FP.dcmp cq (0 : UInt64)) .l))] _
    refine XS.ifNo X0.here hx rfl (hb hby d12_32) rfl ((if0 _ _).trans (feq (hz : ¬ ((cmpValue (FP.dcmp cq (0 : UInt64)) .l) = (0 : Int32)))).1) ?_
    refine XS.iconst X0.here hx rfl (hb hby d12_35) ?_
    refine XS.istore X0.here hx rfl (hb hby d12_36) rfl (l' := #[oR r0, oR ry, oI kk, oD cq, oV, oI 0]) (XS.store1 rfl hs5 rfl) ?_
    refine XS.iload X0.here hx rfl (hb hby d12_38) rfl ?_
    show own_S p e below s₁ m 40 _ [(.int 0)] _
    refine XS.aloadN X0.here hx rfl (hb hby d12_40) rfl rfl ?_
    show own_S p e below s₁ m 41 _ [(.ref r0), (.int 0)] _
    refine st102 _ ?_
    show own_S p e below T102 m 44 _ [(.int 2), (.int 0)] _
    refine XS.icmpNo X102.here hx rfl (hb hby d12_44) rfl (tlt (by decide : (0 : Int32) < (2 : Int32))).2.1 ?_
    refine XS.aloadN X102.here hx rfl (hb hby d12_47) rfl rfl ?_
    refine XS.iload X102.here hx rfl (hb hby d12_48) rfl ?_
    show own_S p e below T102 m 50 _ [(.int 0), (.ref ry)] _
    jvm_step X102.here [X102.here.top, hx, (hb hby d12_50), Value.category]
    show own_S p e below T102 m 51 #[oR r0, oR ry, oI kk, oD cq, oV, oI 0] [(.int 0), (.ref ry), (.int 0), (.ref ry)] _
    refine X102.daload hx (j := (0 : Int32)) (v := (.double z0)) (by rw [e102]; exact Ar103.1) (State.isArrayOf_alike hZ.alike Ar103.2.1) Ar103.2.2 hin104 hat104 (g := (mkF m 51 #[oR r0, oR ry, oI kk, oD cq, oV, oI 0] [(.int 0), (.ref ry), (.int 0), (.ref ry)])) rfl rfl (hb hby d12_51) _ ?_
    show own_S p e below T102 m 52 _ [(.double z0), (.int 0), (.ref ry)] _
    refine XS.dloadN X102.here hx rfl (hb hby d12_52) rfl ?_
    refine XS.aloadN X102.here hx rfl (hb hby d12_53) rfl rfl ?_
    show own_S p e below T102 m 54 _ [(.ref r0), (.double cq), (.double z0), (.int 0), (.ref ry)] _
    refine st105 _ ?_
    show own_S p e below T105 m 57 _ [(.ref ri), (.double cq), (.double z0), (.int 0), (.ref ry)] _
    refine XS.iloadN X105.here hx rfl (hb hby d12_57) rfl ?_
    show own_S p e below T105 m 58 _ [(.int kk), (.ref ri), (.double cq), (.double z0), (.int 0), (.ref ry)] _
    refine X105.aaload hx (j := kk) (v := (.ref rj)) (by rw [e105]; exact Ar106.1) (State.isArrayOf_alike hZ.alike Ar106.2.1) rfl Ar106.2.2 hin107 hat107 (g := (mkF m 58 #[oR r0, oR ry, oI kk, oD cq, oV, oI 0] [(.int kk), (.ref ri), (.double cq), (.double z0), (.int 0), (.ref ry)])) rfl rfl (hb hby d12_58) _ ?_
    show own_S p e below T105 m 59 _ [(.ref rj), (.double cq), (.double z0), (.int 0), (.ref ry)] _
    refine XS.iload X105.here hx rfl (hb hby d12_59) rfl ?_
    show own_S p e below T105 m 61 #[oR r0, oR ry, oI kk, oD cq, oV, oI 0] [(.int 0), (.ref rj), (.double cq), (.double z0), (.int 0), (.ref ry)] _
    refine X105.daload hx (j := (0 : Int32)) (v := (.double v0)) (by rw [e105]; exact Ar108.1) (State.isArrayOf_alike hZ.alike Ar108.2.1) Ar108.2.2 hin109 hat109 (g := (mkF m 61 #[oR r0, oR ry, oI kk, oD cq, oV, oI 0] [(.int 0), (.ref rj), (.double cq), (.double z0), (.int 0), (.ref ry)])) rfl rfl (hb hby d12_61) _ ?_
    show own_S p e below T105 m 62 _ [(.double v0), (.double cq), (.double z0), (.int 0), (.ref ry)] _
    refine XS.dmulS X105.here hx rfl (v := (FP.dmul cq v0)) (hb hby d12_62) rfl (hM hz).1 rfl ?_
    show own_S p e below T105 m 63 _ [(.double (FP.dmul cq v0)), (.double z0), (.int 0), (.ref ry)] _
    refine XS.daddS X105.here hx rfl (v := (FP.dadd z0 (FP.dmul cq v0))) (hb hby d12_63) rfl (hM hz).2.1 rfl ?_
    show own_S p e below T105 m 64 _ [(.double (FP.dadd z0 (FP.dmul cq v0))), (.int 0), (.ref ry)] _
    refine st111 _ ?_
    show own_S p e below T111 m 65 _ [] _
    refine XS.iinc X111.here hx rfl (hb hby d12_65) rfl (l' := #[oR r0, oR ry, oI kk, oD cq, oV, oI 1]) rfl ?_
    refine XS.goto X111.here hx rfl (pc0 := 68) (pc' := 38) rfl (hb hby d12_68) (by decide) (by decide) ?_
    refine XS.iload X111.here hx rfl (hb hby d12_38) rfl ?_
    refine XS.aloadN X111.here hx rfl (hb hby d12_40) rfl rfl ?_
    show own_S p e below T111 m 41 _ [(.ref r0), (.int 1)] _
    refine st116 _ ?_
    show own_S p e below T116 m 44 _ [(.int 2), (.int 1)] _
    refine XS.icmpNo X116.here hx rfl (hb hby d12_44) rfl (tlt (by decide : (1 : Int32) < (2 : Int32))).2.1 ?_
    refine XS.aloadN X116.here hx rfl (hb hby d12_47) rfl rfl ?_
    refine XS.iload X116.here hx rfl (hb hby d12_48) rfl ?_
    show own_S p e below T116 m 50 #[oR r0, oR ry, oI kk, oD cq, oV, oI 1] [(.int 1), (.ref ry)] _
    jvm_step X116.here [X116.here.top, hx, (hb hby d12_50), Value.category]
    show own_S p e below T116 m 51 #[oR r0, oR ry, oI kk, oD cq, oV, oI 1] [(.int 1), (.ref ry), (.int 1), (.ref ry)] _
    refine X116.daload hx (j := (1 : Int32)) (v := (.double z1)) (by rw [e116]; exact Ar117.1) (State.isArrayOf_alike hZ.alike Ar117.2.1) Ar117.2.2 hin118 hat118 (g := (mkF m 51 #[oR r0, oR ry, oI kk, oD cq, oV, oI 1] [(.int 1), (.ref ry), (.int 1), (.ref ry)])) rfl rfl (hb hby d12_51) _ ?_
    show own_S p e below T116 m 52 _ [(.double z1), (.int 1), (.ref ry)] _
    refine XS.dloadN X116.here hx rfl (hb hby d12_52) rfl ?_
    refine XS.aloadN X116.here hx rfl (hb hby d12_53) rfl rfl ?_
    show own_S p e below T116 m 54 _ [(.ref r0), (.double cq), (.double z1), (.int 1), (.ref ry)] _
    refine st120 _ ?_
    show own_S p e below T120 m 57 _ [(.ref ri), (.double cq), (.double z1), (.int 1), (.ref ry)] _
    refine XS.iloadN X120.here hx rfl (hb hby d12_57) rfl ?_
    show own_S p e below T120 m 58 _ [(.int kk), (.ref ri), (.double cq), (.double z1), (.int 1), (.ref ry)] _
    refine X120.aaload hx (j := kk) (v := (.ref rj)) (by rw [e120]; exact Ar122.1) (State.isArrayOf_alike hZ.alike Ar122.2.1) rfl Ar122.2.2 hin123 hat123 (g := (mkF m 58 #[oR r0, oR ry, oI kk, oD cq, oV, oI 1] [(.int kk), (.ref ri), (.double cq), (.double z1), (.int 1), (.ref ry)])) rfl rfl (hb hby d12_58) _ ?_
    show own_S p e below T120 m 59 _ [(.ref rj), (.double cq), (.double z1), (.int 1), (.ref ry)] _
    refine XS.iload X120.here hx rfl (hb hby d12_59) rfl ?_
    show own_S p e below T120 m 61 #[oR r0, oR ry, oI kk, oD cq, oV, oI 1] [(.int 1), (.ref rj), (.double cq), (.double z1), (.int 1), (.ref ry)] _
    refine X120.daload hx (j := (1 : Int32)) (v := (.double v1)) (by rw [e120]; exact Ar125.1) (State.isArrayOf_alike hZ.alike Ar125.2.1) Ar125.2.2 hin126 hat126 (g := (mkF m 61 #[oR r0, oR ry, oI kk, oD cq, oV, oI 1] [(.int 1), (.ref rj), (.double cq), (.double z1), (.int 1), (.ref ry)])) rfl rfl (hb hby d12_61) _ ?_
    show own_S p e below T120 m 62 _ [(.double v1), (.double cq), (.double z1), (.int 1), (.ref ry)] _
    refine XS.dmulS X120.here hx rfl (v := (FP.dmul cq v1)) (hb hby d12_62) rfl (hM hz).2.2.1 rfl ?_
    show own_S p e below T120 m 63 _ [(.double (FP.dmul cq v1)), (.double z1), (.int 1), (.ref ry)] _
    refine XS.daddS X120.here hx rfl (v := (FP.dadd z1 (FP.dmul cq v1))) (hb hby d12_63) rfl (hM hz).2.2.2 rfl ?_
    show own_S p e below T120 m 64 _ [(.double (FP.dadd z1 (FP.dmul cq v1))), (.int 1), (.ref ry)] _
    refine st128 _ ?_
    show own_S p e below T128 m 65 _ [] _
    refine XS.iinc X128.here hx rfl (hb hby d12_65) rfl (l' := #[oR r0, oR ry, oI kk, oD cq, oV, oI 2]) rfl ?_
    refine XS.goto X128.here hx rfl (pc0 := 68) (pc' := 38) rfl (hb hby d12_68) (by decide) (by decide) ?_
    refine XS.iload X128.here hx rfl (hb hby d12_38) rfl ?_
    refine XS.aloadN X128.here hx rfl (hb hby d12_40) rfl rfl ?_
    show own_S p e below T128 m 41 _ [(.ref r0), (.int 2)] _
    refine st132 _ ?_
    show own_S p e below T132 m 44 _ [(.int 2), (.int 2)] _
    refine XS.icmpYes X132.here hx rfl (pc0 := 44) (pc' := 71) rfl (hb hby d12_44) rfl (flt (by decide : ¬ ((2 : Int32) < (2 : Int32)))).2.1 (by decide) (by decide) ?_
    exact kt
theorem d12_0 : decode k12 0 = .ok (.aload_n 0, 1) := by decide +kernel
theorem d12_1 : decode k12 1 = .ok (.getfield 31, 3) := by decide +kernel
theorem d12_4 : decode k12 4 = .ok (.newarray .double, 2) := by decide +kernel
theorem d12_6 : decode k12 6 = .ok (.astore_n 1, 1) := by decide +kernel
theorem d12_7 : decode k12 7 = .ok (.iconst 0, 1) := by decide +kernel
theorem d12_8 : decode k12 8 = .ok (.istore_n 2, 1) := by decide +kernel
theorem d12_9 : decode k12 9 = .ok (.iload_n 2, 1) := by decide +kernel
theorem d12_10 : decode k12 10 = .ok (.aload_n 0, 1) := by decide +kernel
theorem d12_11 : decode k12 11 = .ok (.getfield 31, 3) := by decide +kernel
theorem d12_14 : decode k12 14 = .ok (.if_icmp .ge 63, 3) := by decide +kernel
theorem d12_17 : decode k12 17 = .ok (.aload_n 0, 1) := by decide +kernel
theorem d12_18 : decode k12 18 = .ok (.getfield 7, 3) := by decide +kernel
theorem d12_21 : decode k12 21 = .ok (.aload_n 0, 1) := by decide +kernel
theorem d12_22 : decode k12 22 = .ok (.getfield 42, 3) := by decide +kernel
theorem d12_25 : decode k12 25 = .ok (.iload_n 2, 1) := by decide +kernel
theorem d12_26 : decode k12 26 = .ok (.iaload, 1) := by decide +kernel
theorem d12_27 : decode k12 27 = .ok (.daload, 1) := by decide +kernel
theorem d12_28 : decode k12 28 = .ok (.dstore_n 3, 1) := by decide +kernel
theorem d12_71 : decode k12 71 = .ok (.iinc 2 1, 3) := by decide +kernel
theorem d12_74 : decode k12 74 = .ok (.goto (-65), 3) := by decide +kernel
theorem d12_77 : decode k12 77 = .ok (.aload_n 1, 1) := by decide +kernel
theorem d12_78 : decode k12 78 = .ok (.areturn, 1) := by decide +kernel
theorem efm12 (m : MethodId) (r0 : Addr) : entryFrame m #[(.ref r0)] 6 = mkF m 0 #[oR r0, oU, oU, oU, oU, oU] [] := by first | (simp [entryFrame, mkF, argsToLocals, Value.category]; done) | rfl
def Qm12 (Z : State) (r0 : Addr) (co : Addr) (ba : Addr) (ri : Addr) (j0 : Addr) (j1 : Addr) (kco : ClassId) (kba : ClassId) (kri : ClassId) (ki : ClassId) (b0 : Int32) (b1 : Int32) (vc : List Value) (ca : UInt64) (cb : UInt64) (i00 : UInt64) (i01 : UInt64) (i10 : UInt64) (i11 : UInt64) (h0 : Heap) (n0 : Nat) (v : Option Value) (h : Heap) (L : List Loc) : Prop := ∃ y : Addr, ∃ ky : ClassId, v = some (.ref y) ∧ Fr n0 L ∧ (Keep h0 h []) ∧ (h0.size ≤ y) ∧ (Arv Z h y ky .double (2 : Int32) [(.double (own_ax cb (own_ax ca (0 : UInt64) i00) i10)), (.double (own_ax cb (own_ax ca (0 : UInt64) i01) i11))] (.double 0)) ∧ (Exa Z h y "[D")
set_option maxRecDepth 65536 in
set_option maxHeartbeats 40000000 in
theorem rmm12 (l : Launch) (Z : State) (a0 : Array Value) (hw : own_HW Z a0) (ws : List Jvm.Cond) (r0 : Addr) (co : Addr) (ba : Addr) (ri : Addr) (j0 : Addr) (j1 : Addr) (kco : ClassId) (kba : ClassId) (kri : ClassId) (ki : ClassId) (b0 : Int32) (b1 : Int32) (vc : List Value) (ca : UInt64) (cb : UInt64) (i00 : UInt64) (i01 : UInt64) (i10 : UInt64) (i11 : UInt64) (h0 : Heap) (n0 : Nat) (Z0 : n0 ≤ h0.size) (F_rows_r0 : Fld Z h0 r0 own_K1 "rows" "I" (.int 2)) (F_costs_r0 : Fld Z h0 r0 own_K1 "costs" "[D" (.ref co)) (F_basic_r0 : Fld Z h0 r0 own_K1 "basic" "[I" (.ref ba)) (F_inverse_r0 : Fld Z h0 r0 own_K1 "inverse" "[[D" (.ref ri)) (E_r0 : Exa Z h0 r0 own_K1) (V_co : Arv Z h0 co kco .double (16 : Int32) vc (.double 0)) (V_ba : Arv Z h0 ba kba .int (2 : Int32) [(.int b0), (.int b1)] (.int 0)) (V_ri : Arv Z h0 ri kri (.array .double) (2 : Int32) [(.ref j0), (.ref j1)] .null) (V_j0 : Arv Z h0 j0 ki .double (2 : Int32) [(.double i00), (.double i01)] (.double 0)) (V_j1 : Arv Z h0 j1 ki .double (2 : Int32) [(.double i10), (.double i11)] (.double 0)) (E_ri : Exa Z h0 ri "[[D") (hi0 : ¬ b0 < (0 : Int32) ∧ b0 < (16 : Int32)) (hi1 : ¬ b1 < (0 : Int32) ∧ b1 < (16 : Int32)) (hc0 : vc.getD b0.toNatClampNeg (.double 0) = .double ca) (hc1 : vc.getD b1.toNatClampNeg (.double 0) = .double cb) (hM0 : own_okM ca i00 i01 0 0) (hM1 : own_okM cb i10 i11 (own_ax ca 0 i00) (own_ax ca 0 i01)) :
    MetFree l (⟨own_K1, "multipliers", "()[D"⟩ : MethodName) (head1 (Jvm.Cond.code (⟨own_K1, "multipliers", "()[D"⟩ : MethodName) prog_41_method_4_code 6 (some (.array .double)) :: ws) ({ frames := 0, cells := 1, slots := 2, locals := 0 } : Room)) (fun a U => a = #[(.ref r0)] ∧ Z.Warmed39 U.vm ∧ U.heap = h0) (fun _ _ _ _ _ => True) (fun _ U o U' => ∃ v L, o = .returned v ∧ Qm12 Z r0 co ba ri j0 j1 kco kba kri ki b0 b1 vc ca cb i00 i01 i10 i11 h0 n0 v U'.heap L ∧ FrameEnd U o U' L ({ frames := 0, cells := 1, slots := 2, locals := 0 } : Room).cells ({ frames := 0, cells := 1, slots := 2, locals := 0 } : Room).slots) := by
  refine MetFree.of_bodySF (plainFor_of_name pn1) hisR ?_
  intro p e s m args below meth c s₁ Bd hml0 hP hK
  obtain ⟨rfl, hZ, hh⟩ := hP
  have hx := Bd.exec
  have hby := Bd.bytes
  have hml : c.maxLocals = 6 := hml0
  have hown : s.vm.findClass own_K1 = some m.cls := findClass_of_methodNamed Bd.named
  have hnm := (name_of_methodNamed Bd.named Bd.method).1
  have X0 : Stand p l e ({ frames := 0, cells := 1, slots := 2, locals := 0 } : Room) s m #[(.ref r0)] below meth c s₁ [] 0 0 := Stand.of_body Bd
  have e0 : s₁.heap = h0 := by rw [← hh, Bd.state]; rfl
  have N0 := Fr.nil n0
  have pre0 : ∀ t, Steps p.tables e below (s₁.setTop (mkF m 0 #[oR r0, oU, oU, oU, oU, oU] [])) t → Steps p.tables e below (s₁.setTop (entryFrame m #[(.ref r0)] 6)) t := fun t k => castTop (efm12 m r0) k
  obtain ⟨T101, X101, e101, st101⟩ := getF X0 hx hZ hown (host := "") (Or.inl (own_w hw 30 rfl)) Via.refl e0 F_rows_r0 (g := (mkF m 1 #[oR r0, oU, oU, oU, oU, oU] [(.ref r0)])) rfl rfl (hb hby d12_1)
  obtain ⟨T102, h102, k102, X102, e102, E102, A102, Ea102, st102⟩ := newPE X101 hx hZ (own_w hw 4 rfl) e101 (g := (mkF m 4 #[oR r0, oU, oU, oU, oU, oU] [(.int 2)])) rfl (hb hby d12_4) rfl (by decide) (cap := 2) (by decide) (by decide) (by decide) (by decide) (ad := "[D") (by decide)
  obtain ⟨b102, g102⟩ : ∃ z, z = h0.size := ⟨_, rfl⟩
  rw [← g102] at A102 Ea102 st102
  have g_b102 : n0 ≤ b102 := Nat.le_trans Z0 (Nat.le_of_eq g102.symm)
  have sz_b102 : h0.size ≤ b102 := Nat.le_trans (Keep.refl h0 []).1 (Nat.le_of_eq g102.symm)
  have ZZ103 : n0 ≤ h102.size := Nat.le_trans Z0 E102.1
  have KK104 : Keep h0 h102 [] := (Keep.refl h0 []).ext E102
  have V_b102 : Arv Z h102 b102 k102 .double (2 : Int32) [(.double 0), (.double 0)] (.double 0) := (Arv.new A102 (by decide)).pad (pad_rep [] (.double 0) 2)
  obtain ⟨T105, X105, e105, st105⟩ := getF X102 hx hZ hown (host := "") (Or.inl (own_w hw 30 rfl)) Via.refl e102 (F_rows_r0.ext E102) (g := (mkF m 11 #[oR r0, oR b102, oI 0, oU, oU, oU] [(.ref r0), (.int 0)])) rfl rfl (hb hby d12_11)
  obtain ⟨T106, X106, e106, st106⟩ := getF X105 hx hZ hown (host := "") (Or.inl (own_w hw 14 rfl)) Via.refl e105 (F_costs_r0.ext E102) (g := (mkF m 18 #[oR r0, oR b102, oI 0, oU, oU, oU] [(.ref r0)])) rfl rfl (hb hby d12_18)
  obtain ⟨T107, X107, e107, st107⟩ := getF X106 hx hZ hown (host := "") (Or.inl (own_w hw 42 rfl)) Via.refl e106 (F_basic_r0.ext E102) (g := (mkF m 22 #[oR r0, oR b102, oI 0, oU, oU, oU] [(.ref r0), (.ref co)])) rfl rfl (hb hby d12_22)
  obtain ⟨cl108, Ar108, qk108, Sz108, Nz108, Hh108, Gg108⟩ := id (V_ba.ext E102)
  have hin109 : ¬ ((0 : Int32) < 0 ∨ cl108.slots.size ≤ ((0 : Int32)).toNatClampNeg) := inb_of Sz108 ⟨by decide, by decide⟩
  have hat109 : cl108.slots[((0 : Int32)).toNatClampNeg]? = some (.int b0) := Has.at Hh108 hin109 rfl
  obtain ⟨cl110, Ar110, qk110, Sz110, Nz110, Hh110, Gg110⟩ := id (V_co.ext E102)
  have hin111 : ¬ (b0 < 0 ∨ cl110.slots.size ≤ (b0).toNatClampNeg) := inb_of Sz110 hi0
  have hat111 : cl110.slots[(b0).toNatClampNeg]? = some (.double ca) := Has.at Hh110 hin111 hc0
  have nq112 : j0 ≠ b102 := (Nat.ne_of_lt (Nat.lt_of_lt_of_le V_j0.lt (Nat.le_of_eq g102.symm)))
  obtain ⟨s5'_113, T113, L113, X113, N113, P113_0, P113_1, P113_2, st113⟩ := own_MS l Z a0 hw r0 b102 ri j0 j1 j0 kri ki k102 (0 : Int32) (oU) ca i00 i01 (0 : UInt64) (0 : UInt64) h102 n0 ZZ103 (F_rows_r0.ext E102) (F_inverse_r0.ext E102) (V_ri.ext E102) (V_j0.ext E102) V_b102 (E_r0.ext E102) (E_ri.ext E102) Ea102 g_b102 nq112 (⟨by decide, by decide⟩) rfl hM0 One.u hx hby hml hZ hown hnm X107 e107 N0
  have ZZ114 : n0 ≤ T113.heap.size := Nat.le_trans ZZ103 P113_0.1
  have KK115 : Keep h0 T113.heap [] := Keep.trans KK104 P113_0 (allS (Or.inr sz_b102) all0)
  have Fc116 := (F_rows_r0.keep KK115 nin0)
  obtain ⟨T117, X117, e117, st117⟩ := getF X113 hx hZ hown (host := "") (Or.inl (own_w hw 30 rfl)) Via.refl rfl Fc116 (g := (mkF m 11 #[oR r0, oR b102, oI 1, oD ca, oV, s5'_113] [(.ref r0), (.int 1)])) rfl rfl (hb hby d12_11)
  have Fc118 := (F_costs_r0.keep KK115 nin0)
  obtain ⟨T119, X119, e119, st119⟩ := getF X117 hx hZ hown (host := "") (Or.inl (own_w hw 14 rfl)) Via.refl e117 Fc118 (g := (mkF m 18 #[oR r0, oR b102, oI 1, oD ca, oV, s5'_113] [(.ref r0)])) rfl rfl (hb hby d12_18)
  have Fc120 := (F_basic_r0.keep KK115 nin0)
  obtain ⟨T121, X121, e121, st121⟩ := getF X119 hx hZ hown (host := "") (Or.inl (own_w hw 42 rfl)) Via.refl e119 Fc120 (g := (mkF m 22 #[oR r0, oR b102, oI 1, oD ca, oV, s5'_113] [(.ref r0), (.ref co)])) rfl rfl (hb hby d12_22)
  have Fc122 := (V_ba.keep KK115 nin0)
  obtain ⟨cl123, Ar123, qk123, Sz123, Nz123, Hh123, Gg123⟩ := id Fc122
  have hin124 : ¬ ((1 : Int32) < 0 ∨ cl123.slots.size ≤ ((1 : Int32)).toNatClampNeg) := inb_of Sz123 ⟨by decide, by decide⟩
  have hat124 : cl123.slots[((1 : Int32)).toNatClampNeg]? = some (.int b1) := Has.at Hh123 hin124 rfl
  have Fc125 := (V_co.keep KK115 nin0)
  obtain ⟨cl126, Ar126, qk126, Sz126, Nz126, Hh126, Gg126⟩ := id Fc125
  have hin127 : ¬ (b1 < 0 ∨ cl126.slots.size ≤ (b1).toNatClampNeg) := inb_of Sz126 hi1
  have hat127 : cl126.slots[(b1).toNatClampNeg]? = some (.double cb) := Has.at Hh126 hin127 hc1
  have Fc128 := (F_inverse_r0.keep KK115 nin0)
  have Fc129 := (V_ri.keep KK115 nin0)
  have Fc130 := (V_j1.keep KK115 nin0)
  have Fc131 := (E_r0.keep KK115)
  have Fc132 := (E_ri.keep KK115)
  have nq133 : j1 ≠ b102 := (Nat.ne_of_lt (Nat.lt_of_lt_of_le V_j1.lt (Nat.le_of_eq g102.symm)))
  obtain ⟨s5'_134, T134, L134, X134, N134, P134_0, P134_1, P134_2, st134⟩ := own_MS l Z a0 hw r0 b102 ri j0 j1 j1 kri ki k102 (1 : Int32) (s5'_113) cb i10 i11 (own_ax ca (0 : UInt64) i00) (own_ax ca (0 : UInt64) i01) T113.heap n0 ZZ114 Fc116 Fc128 Fc129 Fc130 P113_1 Fc131 Fc132 (Ea102.keep P113_0) g_b102 nq133 (⟨by decide, by decide⟩) rfl hM1 P113_2 hx hby hml hZ hown hnm X121 e121 N113
  have ZZ135 : n0 ≤ T134.heap.size := Nat.le_trans ZZ114 P134_0.1
  have KK136 : Keep h0 T134.heap [] := Keep.trans KK115 P134_0 (allS (Or.inr sz_b102) all0)
  have Fc137 := (F_rows_r0.keep KK136 nin0)
  obtain ⟨T138, X138, e138, st138⟩ := getF X134 hx hZ hown (host := "") (Or.inl (own_w hw 30 rfl)) Via.refl rfl Fc137 (g := (mkF m 11 #[oR r0, oR b102, oI 2, oD cb, oV, s5'_134] [(.ref r0), (.int 2)])) rfl rfl (hb hby d12_11)
  obtain ⟨fs, hr, hrun, hended, hW, hsame⟩ := X138.leave (v := some (.ref b102)) (fun h => by rw [Bd.returns] at h; cases h)
  refine ⟨_, _, pre0 _ ?_, hrun, hended, _, _, rfl, ?_, ⟨_, rfl⟩, hW, hsame.mono (by decide) (by decide)⟩
  · show own_S p e below s₁ m 0 #[oR r0, oU, oU, oU, oU, oU] [] _
    refine XS.aloadN X0.here hx rfl (hb hby d12_0) rfl rfl ?_
    show own_S p e below s₁ m 1 _ [(.ref r0)] _
    refine st101 _ ?_
    show own_S p e below T101 m 4 _ [(.int 2)] _
    refine st102 _ ?_
    show own_S p e below T102 m 6 _ [(.ref b102)] _
    refine XS.astoreN X102.here hx rfl (hb hby d12_6) rfl rfl (l' := #[oR r0, oR b102, oU, oU, oU, oU]) rfl ?_
    refine XS.iconst X102.here hx rfl (hb hby d12_7) ?_
    refine XS.istoreN X102.here hx rfl (hb hby d12_8) rfl (l' := #[oR r0, oR b102, oI 0, oU, oU, oU]) rfl ?_
    refine XS.iloadN X102.here hx rfl (hb hby d12_9) rfl ?_
    show own_S p e below T102 m 10 _ [(.int 0)] _
    refine XS.aloadN X102.here hx rfl (hb hby d12_10) rfl rfl ?_
    show own_S p e below T102 m 11 _ [(.ref r0), (.int 0)] _
    refine st105 _ ?_
    show own_S p e below T105 m 14 _ [(.int 2), (.int 0)] _
    refine XS.icmpNo X105.here hx rfl (hb hby d12_14) rfl (tlt (by decide : (0 : Int32) < (2 : Int32))).2.1 ?_
    refine XS.aloadN X105.here hx rfl (hb hby d12_17) rfl rfl ?_
    show own_S p e below T105 m 18 _ [(.ref r0)] _
    refine st106 _ ?_
    show own_S p e below T106 m 21 _ [(.ref co)] _
    refine XS.aloadN X106.here hx rfl (hb hby d12_21) rfl rfl ?_
    show own_S p e below T106 m 22 #[oR r0, oR b102, oI 0, oU, oU, oU] [(.ref r0), (.ref co)] _
    refine st107 _ ?_
    show own_S p e below T107 m 25 _ [(.ref ba), (.ref co)] _
    refine XS.iloadN X107.here hx rfl (hb hby d12_25) rfl ?_
    show own_S p e below T107 m 26 _ [(.int 0), (.ref ba), (.ref co)] _
    refine X107.iaload hx (j := (0 : Int32)) (v := (.int b0)) (by rw [e107]; exact Ar108.1) (State.isArrayOf_alike hZ.alike Ar108.2.1) Ar108.2.2 hin109 hat109 (g := (mkF m 26 #[oR r0, oR b102, oI 0, oU, oU, oU] [(.int 0), (.ref ba), (.ref co)])) rfl rfl (hb hby d12_26) _ ?_
    show own_S p e below T107 m 27 _ [(.int b0), (.ref co)] _
    refine X107.daload hx (j := b0) (v := (.double ca)) (by rw [e107]; exact Ar110.1) (State.isArrayOf_alike hZ.alike Ar110.2.1) Ar110.2.2 hin111 hat111 (g := (mkF m 27 #[oR r0, oR b102, oI 0, oU, oU, oU] [(.int b0), (.ref co)])) rfl rfl (hb hby d12_27) _ ?_
    show own_S p e below T107 m 28 _ [(.double ca)] _
    refine XS.dstoreN X107.here hx rfl (hb hby d12_28) rfl (l' := #[oR r0, oR b102, oI 0, oD ca, oV, oU]) rfl ?_
    show own_S p e below T107 m 29 #[oR r0, oR b102, oI 0, oD ca, oV, oU] [] _
    refine st113 _ ?_
    show own_S p e below T113 m 71 #[oR r0, oR b102, oI 0, oD ca, oV, s5'_113] [] _
    refine XS.iinc X113.here hx rfl (hb hby d12_71) rfl (l' := #[oR r0, oR b102, oI 1, oD ca, oV, s5'_113]) rfl ?_
    refine XS.goto X113.here hx rfl (pc0 := 74) (pc' := 9) rfl (hb hby d12_74) (by decide) (by decide) ?_
    refine XS.iloadN X113.here hx rfl (hb hby d12_9) rfl ?_
    refine XS.aloadN X113.here hx rfl (hb hby d12_10) rfl rfl ?_
    show own_S p e below T113 m 11 _ [(.ref r0), (.int 1)] _
    refine st117 _ ?_
    show own_S p e below T117 m 14 _ [(.int 2), (.int 1)] _
    refine XS.icmpNo X117.here hx rfl (hb hby d12_14) rfl (tlt (by decide : (1 : Int32) < (2 : Int32))).2.1 ?_
    refine XS.aloadN X117.here hx rfl (hb hby d12_17) rfl rfl ?_
    show own_S p e below T117 m 18 _ [(.ref r0)] _
    refine st119 _ ?_
    show own_S p e below T119 m 21 #[oR r0, oR b102, oI 1, oD ca, oV, s5'_113] [(.ref co)] _
    refine XS.aloadN X119.here hx rfl (hb hby d12_21) rfl rfl ?_
    show own_S p e below T119 m 22 _ [(.ref r0), (.ref co)] _
    refine st121 _ ?_
    show own_S p e below T121 m 25 _ [(.ref ba), (.ref co)] _
    refine XS.iloadN X121.here hx rfl (hb hby d12_25) rfl ?_
    show own_S p e below T121 m 26 _ [(.int 1), (.ref ba), (.ref co)] _
    refine X121.iaload hx (j := (1 : Int32)) (v := (.int b1)) (by rw [e121]; exact Ar123.1) (State.isArrayOf_alike hZ.alike Ar123.2.1) Ar123.2.2 hin124 hat124 (g := (mkF m 26 #[oR r0, oR b102, oI 1, oD ca, oV, s5'_113] [(.int 1), (.ref ba), (.ref co)])) rfl rfl (hb hby d12_26) _ ?_
    show own_S p e below T121 m 27 _ [(.int b1), (.ref co)] _
    refine X121.daload hx (j := b1) (v := (.double cb)) (by rw [e121]; exact Ar126.1) (State.isArrayOf_alike hZ.alike Ar126.2.1) Ar126.2.2 hin127 hat127 (g := (mkF m 27 #[oR r0, oR b102, oI 1, oD ca, oV, s5'_113] [(.int b1), (.ref co)])) rfl rfl (hb hby d12_27) _ ?_
    show own_S p e below T121 m 28 _ [(.double cb)] _
    refine XS.dstoreN X121.here hx rfl (hb hby d12_28) rfl (l' := #[oR r0, oR b102, oI 1, oD cb, oV, s5'_113]) rfl ?_
    show own_S p e below T121 m 29 #[oR r0, oR b102, oI 1, oD cb, oV, s5'_113] [] _
    refine st134 _ ?_
    show own_S p e below T134 m 71 #[oR r0, oR b102, oI 1, oD cb, oV, s5'_134] [] _
    refine XS.iinc X134.here hx rfl (hb hby d12_71) rfl (l' := #[oR r0, oR b102, oI 2, oD cb, oV, s5'_134]) rfl ?_
    refine XS.goto X134.here hx rfl (pc0 := 74) (pc' := 9) rfl (hb hby d12_74) (by decide) (by decide) ?_
    refine XS.iloadN X134.here hx rfl (hb hby d12_9) rfl ?_
    refine XS.aloadN X134.here hx rfl (hb hby d12_10) rfl rfl ?_
    show own_S p e below T134 m 11 _ [(.ref r0), (.int 2)] _
    refine st138 _ ?_
    show own_S p e below T138 m 14 _ [(.int 2), (.int 2)] _
    refine XS.icmpYes X138.here hx rfl (pc0 := 14) (pc' := 77) rfl (hb hby d12_14) rfl (flt (by decide : ¬ ((2 : Int32) < (2 : Int32)))).2.1 (by decide) (by decide) ?_
    refine XS.aloadN X138.here hx rfl (hb hby d12_77) rfl rfl ?_
    show own_S p e below T138 m 78 _ [(.ref b102)] _
    exact retOut X138 hx Bd.returns rfl (Or.inr (Or.inr (Or.inr (Or.inr ⟨rfl, rfl, rfl⟩)))) (hb hby d12_78) hr
  · show Qm12 Z r0 co ba ri j0 j1 kco kba kri ki b0 b1 vc ca cb i00 i01 i10 i11 h0 n0 _ T138.heap _
    rw [e138]
    exact ⟨b102, k102, rfl, N134, KK136, sz_b102, P134_1, ((Ea102.keep P113_0).keep P134_0)⟩
theorem pd6 : parseMethodDescriptor "(I)D" = some ⟨[.int], some .double⟩ := by decide +kernel
set_option maxRecDepth 65536 in
set_option maxHeartbeats 40000000 in
theorem own_SE (l : Launch) (Z : State) (a0 : Array Value) (hw : own_HW Z a0) (p0 : Int32) (p1 : Int32) (p2 : Int32) (p3 : Int32) (pp : Int32) (qq : Int32) (d0 : UInt64) (d1 : UInt64) (h0 : Heap) (n0 : Nat) (Z0 : n0 ≤ h0.size) 
    {p : Program} {e : Env} {s : State} {m : MethodId} {args : Array Value} {below : List Frame} {meth : Method} {c : Code} {s₁ : State} {Lc : List Loc} (hx : p.tables.exec = Jvm.exec) (hby : c.code = code) (hml : c.maxLocals = 18) (hZ : Z.Warmed39 s.vm) (hown : s.vm.findClass "com/example/winnower/winnower/discrepancy/SimplexMultipliersPinLaw" = some m.cls) (hnm : meth.name = "law") (X0 : Stand p l e room_1 s m args below meth c s₁ Lc 0 0) (e0 : s₁.heap = h0) (N0 : Fr n0 Lc) :
    ∃ ee : UInt64, ∃ T : State, ∃ L : List Loc, Stand p l e room_1 s m args below meth c T L 0 0 ∧ Fr n0 L ∧ (Keep h0 T.heap []) ∧ (own_is9 ee) ∧ ∀ t, Steps p.tables e below (T.setTop (mkF m 50 #[oI p0, oI p1, oI p2, oI p3, oI pp, oI qq, oD d0, oV, oD d1, oV, oD ee, oV, oU, oU, oU, oU, oU, oU] [])) t → Steps p.tables e below (s₁.setTop (mkF m 28 #[oI p0, oI p1, oI p2, oI p3, oI pp, oI qq, oD d0, oV, oD d1, oV, oU, oU, oU, oU, oU, oU, oU, oU] [])) t := by
  have pre101 : ∀ t, Steps p.tables e below (s₁.setTop (mkF m 34 #[oI p0, oI p1, oI p2, oI p3, oI pp, oI qq, oD d0, oV, oD d1, oV, oU, oU, oU, oU, oU, oU, oU, oU] [(.int ((p3 >>> ((11 : Int32) &&& 31)) &&& (1 : Int32)))])) t → Steps p.tables e below (s₁.setTop (mkF m 28 #[oI p0, oI p1, oI p2, oI p3, oI pp, oI qq, oD d0, oV, oD d1, oV, oU, oU, oU, oU, oU, oU, oU, oU] [])) t := by
    intro t kt
    show own_S p e below s₁ m 28 #[oI p0, oI p1, oI p2, oI p3, oI pp, oI qq, oD d0, oV, oD d1, oV, oU, oU, oU, oU, oU, oU, oU, oU] [] _
    refine XS.iloadN X0.here hx rfl (hb hby at_28) rfl ?_
    refine XS.bipush X0.here hx rfl (hb hby at_29) ?_
    show own_S p e below s₁ m 31 _ [(.int 11), (.int p3)] _
    refine XS.ishr X0.here hx rfl (hb hby at_31) rfl ?_
    show own_S p e below s₁ m 32 _ [(.int (p3 >>> ((11 : Int32) &&& 31)))] _
    refine XS.iconst X0.here hx rfl (hb hby at_32) ?_
    show own_S p e below s₁ m 33 _ [(.int 1), (.int (p3 >>> ((11 : Int32) &&& 31)))] _
    refine XS.iand X0.here hx rfl (hb hby at_33) rfl ?_
    exact kt
  by_cases he : ((p3 >>> ((11 : Int32) &&& 31)) &&& (1 : Int32)) = (0 : Int32)
  · skip
    obtain ⟨_, T102, L102, X102, hQ102, st102⟩ := own_cS X0 hx hZ hw hown (W := 0) (rmm1 l Z a0 hw [] (p3 >>> ((8 : Int32) &&& 31)) h0 n0 Z0 ) (by decide) (by decide) (by decide) 0 rfl 1 rfl 2 rfl 3 rfl e0 (g := (mkF m 45 #[oI p0, oI p1, oI p2, oI p3, oI pp, oI qq, oD d0, oV, oD d1, oV, oU, oU, oU, oU, oU, oU, oU, oU] [(.int (p3 >>> ((8 : Int32) &&& 31)))])) rfl (by rw [hml]; rfl) (argsL := [(.int (p3 >>> ((8 : Int32) &&& 31)))]) (rest := []) (lenOf pd6 rfl) rfl (Nat.le_of_eq rfl) (hb hby at_45) rfl (cN := 0) rfl (by decide) (sN := 0) rfl (by decide)
    obtain ⟨rfl, Nq102, P102_0⟩ := hQ102
    have N102 := Fr.app N0 Nq102
    refine ⟨(own_p2 (p3 >>> ((8 : Int32) &&& 31))), _, _, X102, N102, (by rw [P102_0]; exact (Keep.refl h0 [])), (Or.inr (own_p2_is _)), fun t kt => ?_⟩
    refine pre101 _ ?_
    show own_S p e below s₁ m 34 #[oI p0, oI p1, oI p2, oI p3, oI pp, oI qq, oD d0, oV, oD d1, oV, oU, oU, oU, oU, oU, oU, oU, oU] [(.int ((p3 >>> ((11 : Int32) &&& 31)) &&& (1 : Int32)))] _
    refine XS.ifYes X0.here hx rfl (pc0 := 34) (pc' := 41) rfl (hb hby at_34) rfl ((if0 _ _).trans (teq (he : ((p3 >>> ((11 : Int32) &&& 31)) &&& (1 : Int32)) = (0 : Int32))).1) (by decide) (by decide) ?_
    refine XS.iloadN X0.here hx rfl (hb hby at_41) rfl ?_
    refine XS.bipush X0.here hx rfl (hb hby at_42) ?_
    show own_S p e below s₁ m 44 _ [(.int 8), (.int p3)] _
    refine XS.ishr X0.here hx rfl (hb hby at_44) rfl ?_
    show own_S p e below s₁ m 45 _ [(.int (p3 >>> ((8 : Int32) &&& 31)))] _
    refine st102.trans ?_
    show own_S p e below T102 m 48 _ [(.double (own_p2 (p3 >>> ((8 : Int32) &&& 31))))] _
    refine XS.dstore X102.here hx rfl (hb hby at_48) rfl (l' := #[oI p0, oI p1, oI p2, oI p3, oI pp, oI qq, oD d0, oV, oD d1, oV, .val (.double (own_p2 (p3 >>> ((8 : Int32) &&& 31)))), oV, oU, oU, oU, oU, oU, oU]) rfl ?_
    exact kt
  · skip
    refine ⟨(0 : UInt64), _, _, X0, N0, (by rw [e0]; exact (Keep.refl h0 [])), (Or.inl rfl), fun t kt => ?_⟩
    refine pre101 _ ?_
    show own_S p e below s₁ m 34 #[oI p0, oI p1, oI p2, oI p3, oI pp, oI qq, oD d0, oV, oD d1, oV, oU, oU, oU, oU, oU, oU, oU, oU] [(.int ((p3 >>> ((11 : Int32) &&& 31)) &&& (1 : Int32)))] _
    refine XS.ifNo X0.here hx rfl (hb hby at_34) rfl ((if0 _ _).trans (feq (he : ¬ (((p3 >>> ((11 : Int32) &&& 31)) &&& (1 : Int32)) = (0 : Int32)))).1) ?_
    refine XS.dconst0 X0.here hx rfl (v := 0) (hb hby at_37) rfl ?_
    refine XS.goto X0.here hx rfl (pc0 := 38) (pc' := 48) rfl (hb hby at_38) (by decide) (by decide) ?_
    refine XS.dstore X0.here hx rfl (hb hby at_48) rfl (l' := #[oI p0, oI p1, oI p2, oI p3, oI pp, oI qq, oD d0, oV, oD d1, oV, oD 0, oV, oU, oU, oU, oU, oU, oU]) rfl ?_
    exact kt
theorem pd7 : parseMethodDescriptor "([D)V" = some ⟨[(.array .double)], none⟩ := by decide +kernel
theorem pd8 : parseMethodDescriptor "(D[I[DZ)I" = some ⟨[.double, (.array .int), (.array .double), .boolean], some .int⟩ := by decide +kernel
theorem pd9 : parseMethodDescriptor "([I)Z" = some ⟨[(.array .int)], some .boolean⟩ := by decide +kernel
theorem pd10 : parseMethodDescriptor "()[D" = some ⟨[], some (.array .double)⟩ := by decide +kernel
theorem efm0 (m : MethodId) (p0 : Int32) (p1 : Int32) (p2 : Int32) (p3 : Int32) : entryFrame m #[(.int p0), (.int p1), (.int p2), (.int p3)] maxLocals = mkF m 0 #[oI p0, oI p1, oI p2, oI p3, oU, oU, oU, oU, oU, oU, oU, oU, oU, oU, oU, oU, oU, oU] [] := by first | (simp [entryFrame, mkF, argsToLocals, Value.category, maxLocals]; done) | rfl
def Qm0 (Z : State) (p0 : Int32) (p1 : Int32) (p2 : Int32) (p3 : Int32) (h0 : Heap) (n0 : Nat) (v : Option Value) (h : Heap) (L : List Loc) : Prop := v = some (.int 1) ∧ Fr n0 L
set_option maxRecDepth 65536 in
set_option maxHeartbeats 40000000 in
theorem rmm0 (l : Launch) (Z : State) (a0 : Array Value) (hw : own_HW Z a0) (ws : List Jvm.Cond) (p0 : Int32) (p1 : Int32) (p2 : Int32) (p3 : Int32) (h0 : Heap) (n0 : Nat) (Z0 : n0 ≤ h0.size)  :
    MetFree l x (head1 (Jvm.Cond.code x code maxLocals ret :: ws) room_1) (fun a U => a = #[(.int p0), (.int p1), (.int p2), (.int p3)] ∧ Z.Warmed39 U.vm ∧ U.heap = h0) (fun _ _ _ _ _ => True) (fun _ U o U' => ∃ v L, o = .returned v ∧ Qm0 Z p0 p1 p2 p3 h0 n0 v U'.heap L ∧ FrameEnd U o U' L room_1.cells room_1.slots) := by
  refine MetFree.of_bodySF (plainFor_of_name pn0) hisR ?_
  intro p e s m args below meth c s₁ Bd hml0 hP hK
  obtain ⟨rfl, hZ, hh⟩ := hP
  have hx := Bd.exec
  have hby := Bd.bytes
  have hml : c.maxLocals = 18 := hml0
  have hown : s.vm.findClass "com/example/winnower/winnower/discrepancy/SimplexMultipliersPinLaw" = some m.cls := findClass_of_methodNamed Bd.named
  have hnm := (name_of_methodNamed Bd.named Bd.method).1
  have X0 : Stand p l e room_1 s m #[(.int p0), (.int p1), (.int p2), (.int p3)] below meth c s₁ [] 0 0 := Stand.of_body Bd
  have e0 : s₁.heap = h0 := by rw [← hh, Bd.state]; rfl
  have N0 := Fr.nil n0
  have pre0 : ∀ t, Steps p.tables e below (s₁.setTop (mkF m 0 #[oI p0, oI p1, oI p2, oI p3, oU, oU, oU, oU, oU, oU, oU, oU, oU, oU, oU, oU, oU, oU] [])) t → Steps p.tables e below (s₁.setTop (entryFrame m #[(.int p0), (.int p1), (.int p2), (.int p3)] maxLocals)) t := fun t k => castTop (efm0 m p0 p1 p2 p3) k
  obtain ⟨pp, hpp⟩ : ∃ zz, zz = (p3 &&& (1 : Int32)) := ⟨_, rfl⟩
  obtain ⟨qq, hqq⟩ : ∃ zz, zz = ((p3 >>> ((1 : Int32) &&& 31)) &&& (1 : Int32)) := ⟨_, rfl⟩
  have hp := own_bit hpp
  have hqb := own_bit hqq
  obtain ⟨pq, hpq⟩ : ∃ zz, zz = ((1 : Int32) - pp) := ⟨_, rfl⟩
  have hpq2 := own_pq hp hpq
  obtain ⟨d0, hd0⟩ : ∃ zz, zz = own_p2 (p3 >>> ((2 : Int32) &&& 31)) := ⟨_, rfl⟩
  obtain ⟨d1, hd1⟩ : ∃ zz, zz = own_p2 (p3 >>> ((5 : Int32) &&& 31)) := ⟨_, rfl⟩
  have d8 : own_is8 d0 := hd0 ▸ own_p2_is _
  have d8' : own_is8 d1 := hd1 ▸ own_p2_is _
  obtain ⟨_, T101, L101, X101, hQ101, st101⟩ := own_cS X0 hx hZ hw hown (W := 0) (rmm1 l Z a0 hw [] (p3 >>> ((2 : Int32) &&& 31)) h0 n0 Z0 ) (by decide) (by decide) (by decide) 0 rfl 1 rfl 2 rfl 3 rfl e0 (g := (mkF m 15 #[oI p0, oI p1, oI p2, oI p3, oI pp, oI qq, oU, oU, oU, oU, oU, oU, oU, oU, oU, oU, oU, oU] [(.int (p3 >>> ((2 : Int32) &&& 31)))])) rfl (by rw [hml]; rfl) (argsL := [(.int (p3 >>> ((2 : Int32) &&& 31)))]) (rest := []) (lenOf pd6 rfl) rfl (Nat.le_of_eq rfl) (hb hby at_15) rfl (cN := 0) rfl (by decide) (sN := 0) rfl (by decide)
  obtain ⟨rfl, Nq101, P101_0⟩ := hQ101
  have N101 := Fr.app N0 Nq101
  obtain ⟨_, T102, L102, X102, hQ102, st102⟩ := own_cS X101 hx hZ hw hown (W := 0) (rmm1 l Z a0 hw [] (p3 >>> ((5 : Int32) &&& 31)) h0 n0 Z0 ) (by decide) (by decide) (by decide) 0 rfl 1 rfl 2 rfl 3 rfl P101_0 (g := (mkF m 23 #[oI p0, oI p1, oI p2, oI p3, oI pp, oI qq, oD d0, oV, oU, oU, oU, oU, oU, oU, oU, oU, oU, oU] [(.int (p3 >>> ((5 : Int32) &&& 31)))])) rfl (by rw [hml]; rfl) (argsL := [(.int (p3 >>> ((5 : Int32) &&& 31)))]) (rest := []) (lenOf pd6 rfl) rfl (Nat.le_of_eq rfl) (hb hby at_23) rfl (cN := 0) rfl (by decide) (sN := 0) rfl (by decide)
  obtain ⟨rfl, Nq102, P102_0⟩ := hQ102
  have N102 := Fr.app N101 Nq102
  obtain ⟨ee_103, T103, L103, X103, N103, P103_0, he9, st103⟩ := own_SE l Z a0 hw p0 p1 p2 p3 pp qq d0 d1 h0 n0 Z0  hx hby hml hZ hown hnm X102 P102_0 N102
  have ZZ104 : n0 ≤ T103.heap.size := Nat.le_trans Z0 P103_0.1
  obtain ⟨T105, h105, k105, X105, e105, E105, A105, Ea105, st105⟩ := newPE X103 hx hZ (own_w hw 4 rfl) rfl (g := (mkF m 51 #[oI p0, oI p1, oI p2, oI p3, oI pp, oI qq, oD d0, oV, oD d1, oV, oD ee_103, oV, oU, oU, oU, oU, oU, oU] [(.int 2)])) rfl (hb hby at_51) rfl (by decide) (cap := 2) (by decide) (by decide) (by decide) (by decide) (ad := "[D") (by decide)
  obtain ⟨b105, g105⟩ : ∃ z, z = T103.heap.size := ⟨_, rfl⟩
  rw [← g105] at A105 Ea105 st105
  have g_b105 : n0 ≤ b105 := Nat.le_trans ZZ104 (Nat.le_of_eq g105.symm)
  have ZZ106 : n0 ≤ h105.size := Nat.le_trans ZZ104 E105.1
  have V_b105 : Arv Z h105 b105 k105 .double (2 : Int32) [(.double 0), (.double 0)] (.double 0) := (Arv.new A105 (by decide)).pad (pad_rep [] (.double 0) 2)
  obtain ⟨gg, hgg⟩ : ∃ zz, zz = FP.dadd d0 ee_103 := ⟨_, rfl⟩
  obtain ⟨cl107, Ar107, qk107, Sz107, Nz107, Hh107, Gg107⟩ := id V_b105
  have hin108 : ¬ (pp < 0 ∨ cl107.slots.size ≤ (pp).toNatClampNeg) := inb_of Sz107 (own_in hp)
  obtain ⟨T109, h109, X109, e109, W109, st109⟩ := stD X105 hx hZ e105 Ar107 (j := pp) hin108 (g := (mkF m 64 #[oI p0, oI p1, oI p2, oI p3, oI pp, oI qq, oD d0, oV, oD d1, oV, oD ee_103, oV, oR b105, oU, oU, oU, oU, oU] [(.double gg), (.int pp), (.ref b105)])) rfl rfl (hb hby at_64)
  have Va109 := Arv.set Ar107 qk107 Sz107 Nz107 Hh107 Gg107 rfl W109 pp.toNatClampNeg rfl (own_lt hp)
  have Vs109 : Arv Z h109 b105 k105 .double (2 : Int32) [(.double (own_s pp gg 0)), (.double (own_s pp 0 gg))] (.double 0) := by rw [← ((own_set0 hp gg) : ([(.double 0), (.double 0)] : List Value).set pp.toNatClampNeg (.double gg) = [(.double (own_s pp gg 0)), (.double (own_s pp 0 gg))])]; exact Va109
  have N109 := Fr.snoc X109 N103 g_b105
  have ZZ110 : n0 ≤ h109.size := Nat.le_trans ZZ106 (Nat.le_of_eq W109.size.symm)
  obtain ⟨cl111, Ar111, qk111, Sz111, Nz111, Hh111, Gg111⟩ := id Vs109
  have hin112 : ¬ (pq < 0 ∨ cl111.slots.size ≤ (pq).toNatClampNeg) := inb_of Sz111 (own_in (own_pq01 hpq2))
  obtain ⟨T113, h113, X113, e113, W113, st113⟩ := stD X109 hx hZ e109 Ar111 (j := pq) hin112 (g := (mkF m 73 #[oI p0, oI p1, oI p2, oI p3, oI pp, oI qq, oD d0, oV, oD d1, oV, oD ee_103, oV, oR b105, oU, oU, oU, oU, oU] [(.double d1), (.int pq), (.ref b105)])) rfl rfl (hb hby at_73)
  have Va113 := Arv.set Ar111 qk111 Sz111 Nz111 Hh111 Gg111 rfl W113 pq.toNatClampNeg rfl (own_lt (own_pq01 hpq2))
  have Vs113 : Arv Z h113 b105 k105 .double (2 : Int32) [(.double (own_s pp gg d1)), (.double (own_s pp d1 gg))] (.double 0) := by rw [← ((own_set1 hpq2 gg d1) : ([(.double (own_s pp gg 0)), (.double (own_s pp 0 gg))] : List Value).set pq.toNatClampNeg (.double d1) = [(.double (own_s pp gg d1)), (.double (own_s pp d1 gg))])]; exact Va113
  have N113 := Fr.snoc X113 N109 g_b105
  have ZZ114 : n0 ≤ h113.size := Nat.le_trans ZZ110 (Nat.le_of_eq W113.size.symm)
  obtain ⟨T115, h115, X115, e115, E115, A115, D115, -, st115⟩ := newO X113 hx hZ hown (own_w hw 5 rfl) (own_w hw 6 rfl) (own_w hw 7 rfl) e113 (g := (mkF m 74 #[oI p0, oI p1, oI p2, oI p3, oI pp, oI qq, oD d0, oV, oD d1, oV, oD ee_103, oV, oR b105, oU, oU, oU, oU, oU] [])) rfl (hb hby at_74) (by decide) (by decide)
  obtain ⟨b115, g115⟩ : ∃ z, z = h113.size := ⟨_, rfl⟩
  rw [← g115] at A115 D115 st115
  have g_b115 : n0 ≤ b115 := Nat.le_trans ZZ114 (Nat.le_of_eq g115.symm)
  have ZZ116 : n0 ≤ h115.size := Nat.le_trans ZZ114 E115.1
  have F_costs_b115 : Fld Z h115 b115 own_K1 "costs" "[D" .null := D115 (Or.inl (own_w hw 15 rfl)) (ty := (.array .double)) (by decide)
  have F_free_b115 : Fld Z h115 b115 own_K1 "free" "[Z" .null := D115 (Or.inl (own_w hw 18 rfl)) (ty := (.array .boolean)) (by decide)
  have F_entryRows_b115 : Fld Z h115 b115 own_K1 "entryRows" "[[I" .null := D115 (Or.inl (own_w hw 22 rfl)) (ty := (.array (.array .int))) (by decide)
  have F_entryValues_b115 : Fld Z h115 b115 own_K1 "entryValues" "[[D" .null := D115 (Or.inl (own_w hw 26 rfl)) (ty := (.array (.array .double))) (by decide)
  have F_place_b115 : Fld Z h115 b115 own_K1 "place" "[I" .null := D115 (Or.inl (own_w hw 29 rfl)) (ty := (.array .int)) (by decide)
  have F_rows_b115 : Fld Z h115 b115 own_K1 "rows" "I" (.int 0) := D115 (Or.inr (own_w hw 31 rfl)) (ty := .int) (by decide)
  have F_rhs_b115 : Fld Z h115 b115 own_K1 "rhs" "[D" .null := D115 (Or.inr (own_w hw 41 rfl)) (ty := (.array .double)) (by decide)
  have F_basic_b115 : Fld Z h115 b115 own_K1 "basic" "[I" .null := D115 (Or.inr (own_w hw 43 rfl)) (ty := (.array .int)) (by decide)
  have F_inverse_b115 : Fld Z h115 b115 own_K1 "inverse" "[[D" .null := D115 (Or.inr (own_w hw 46 rfl)) (ty := (.array (.array .double))) (by decide)
  have F_values_b115 : Fld Z h115 b115 own_K1 "values" "[D" .null := D115 (Or.inr (own_w hw 48 rfl)) (ty := (.array .double)) (by decide)
  have F_columns_b115 : Fld Z h115 b115 own_K1 "columns" "I" (.int 0) := D115 (Or.inl (own_w hw 56 rfl)) (ty := .int) (by decide)
  have F_pivotsSinceRefresh_b115 : Fld Z h115 b115 own_K1 "pivotsSinceRefresh" "I" (.int 0) := D115 (Or.inl (own_w hw 84 rfl)) (ty := .int) (by decide)
  have Fc117 := F_pivotsSinceRefresh_b115
  have Fc118 := (((Ea105.wr W109).wr W113).ext E115)
  obtain ⟨_, T119, L119, X119, hQ119, st119⟩ := own_cC X115 hx hZ hw hown (b := b115) (W := 1) (rmm2 l Z a0 hw [] b115 b105 k105 (own_s pp gg d1) (own_s pp d1 gg) h115 n0 ZZ116 F_costs_b115 F_free_b115 F_entryRows_b115 F_entryValues_b115 F_place_b115 F_rows_b115 F_rhs_b115 F_basic_b115 F_inverse_b115 F_values_b115 F_columns_b115 Fc117 A115 g_b115 (Vs113.ext E115) Fc118) (by decide) (by decide) (by decide) rfl 8 rfl 9 rfl 10 rfl 7 rfl e115 (g := (mkF m 80 #[oI p0, oI p1, oI p2, oI p3, oI pp, oI qq, oD d0, oV, oD d1, oV, oD ee_103, oV, oR b105, oU, oU, oU, oU, oU] [(.ref b105), (.ref b115), (.ref b115)])) rfl (by rw [hml]; rfl) (argsL := [(.ref b105)]) (rest := [(.ref b115)]) (lenOf pd7 rfl) rfl (Nat.le_of_eq rfl) (hb hby at_80) rfl (cN := 13) rfl (by decide) (sN := 106) rfl (by decide)
  obtain ⟨co_119, fr_119, er_119, ev_119, pl_119, rh_119, ba_119, ri_119, va_119, i0_119, i1_119, kco_119, kfr_119, ker_119, kev_119, kpl_119, krh_119, kba_119, kri_119, kva_119, ki_119, rfl, Nq119, P119_0, P119_1, P119_2, P119_3, P119_4, P119_5, P119_6, P119_7, P119_8, P119_9, P119_10, P119_11, P119_12, P119_13, P119_14, P119_15, P119_16, P119_17, P119_18, P119_19, P119_20, P119_21, P119_22, P119_23, P119_24, P119_25, P119_26, P119_27, P119_28, P119_29, P119_30, P119_31, P119_32, P119_33, P119_34, P119_35, P119_36, P119_37, P119_38, P119_39, P119_40, P119_41, P119_42, P119_43, P119_44, P119_45, P119_46, P119_47, P119_48, P119_49, P119_50, P119_51, P119_52, P119_53, P119_54, P119_55, P119_56, P119_57, P119_58, P119_59, P119_60, P119_61⟩ := hQ119
  have N119 := Fr.app N113 Nq119
  have g_co_119 : n0 ≤ co_119 := Nat.le_trans ZZ116 P119_1
  have g_fr_119 : n0 ≤ fr_119 := Nat.le_trans ZZ116 P119_2
  have g_er_119 : n0 ≤ er_119 := Nat.le_trans ZZ116 P119_3
  have g_ev_119 : n0 ≤ ev_119 := Nat.le_trans ZZ116 P119_4
  have g_pl_119 : n0 ≤ pl_119 := Nat.le_trans ZZ116 P119_5
  have g_rh_119 : n0 ≤ rh_119 := Nat.le_trans ZZ116 P119_6
  have g_ba_119 : n0 ≤ ba_119 := Nat.le_trans ZZ116 P119_7
  have g_ri_119 : n0 ≤ ri_119 := Nat.le_trans ZZ116 P119_8
  have g_va_119 : n0 ≤ va_119 := Nat.le_trans ZZ116 P119_9
  have g_i0_119 : n0 ≤ i0_119 := Nat.le_trans ZZ116 P119_10
  have g_i1_119 : n0 ≤ i1_119 := Nat.le_trans ZZ116 P119_11
  have ZZ120 : n0 ≤ T119.heap.size := Nat.le_trans ZZ116 P119_0.1
  obtain ⟨T121, h121, k121, X121, e121, E121, A121, Ea121, st121⟩ := newPE X119 hx hZ (own_w hw 27 rfl) rfl (g := (mkF m 90 #[oI p0, oI p1, oI p2, oI p3, oI pp, oI qq, oD d0, oV, oD d1, oV, oD ee_103, oV, oR b105, oR b115, oU, oU, oU, oU] [(.int 2), (.double (FP.i2d p2)), (.ref b115)])) rfl (hb hby at_90) rfl (by decide) (cap := 2) (by decide) (by decide) (by decide) (by decide) (ad := "[I") (by decide)
  obtain ⟨b121, g121⟩ : ∃ z, z = T119.heap.size := ⟨_, rfl⟩
  rw [← g121] at A121 Ea121 st121
  have g_b121 : n0 ≤ b121 := Nat.le_trans ZZ120 (Nat.le_of_eq g121.symm)
  have ZZ122 : n0 ≤ h121.size := Nat.le_trans ZZ120 E121.1
  have V_b121 : Arv Z h121 b121 k121 .int (2 : Int32) [(.int 0), (.int 0)] (.int 0) := (Arv.new A121 (by decide)).pad (pad_rep [] (.int 0) 2)
  obtain ⟨cl123, Ar123, qk123, Sz123, Nz123, Hh123, Gg123⟩ := id V_b121
  have hin124 : ¬ ((0 : Int32) < 0 ∨ cl123.slots.size ≤ ((0 : Int32)).toNatClampNeg) := inb_of Sz123 ⟨by decide, by decide⟩
  obtain ⟨T125, h125, X125, e125, W125, st125⟩ := stI X121 hx hZ e121 Ar123 (j := (0 : Int32)) hin124 (g := (mkF m 95 #[oI p0, oI p1, oI p2, oI p3, oI pp, oI qq, oD d0, oV, oD d1, oV, oD ee_103, oV, oR b105, oR b115, oU, oU, oU, oU] [(.int 0), (.int 0), (.ref b121), (.ref b121), (.double (FP.i2d p2)), (.ref b115)])) rfl rfl (hb hby at_95)
  have Va125 := Arv.set Ar123 qk123 Sz123 Nz123 Hh123 Gg123 rfl W125 0 rfl (Nat.le_of_ble_eq_true rfl)
  have N125 := Fr.snoc X125 N119 g_b121
  have ZZ126 : n0 ≤ h125.size := Nat.le_trans ZZ122 (Nat.le_of_eq W125.size.symm)
  obtain ⟨cl127, Ar127, qk127, Sz127, Nz127, Hh127, Gg127⟩ := id Va125
  have hin128 : ¬ ((1 : Int32) < 0 ∨ cl127.slots.size ≤ ((1 : Int32)).toNatClampNeg) := inb_of Sz127 ⟨by decide, by decide⟩
  obtain ⟨T129, h129, X129, e129, W129, st129⟩ := stI X125 hx hZ e125 Ar127 (j := (1 : Int32)) hin128 (g := (mkF m 99 #[oI p0, oI p1, oI p2, oI p3, oI pp, oI qq, oD d0, oV, oD d1, oV, oD ee_103, oV, oR b105, oR b115, oU, oU, oU, oU] [(.int 1), (.int 1), (.ref b121), (.ref b121), (.double (FP.i2d p2)), (.ref b115)])) rfl rfl (hb hby at_99)
  have Va129 := Arv.set Ar127 qk127 Sz127 Nz127 Hh127 Gg127 rfl W129 1 rfl (Nat.le_of_ble_eq_true rfl)
  have N129 := Fr.snoc X129 N125 g_b121
  have ZZ130 : n0 ≤ h129.size := Nat.le_trans ZZ126 (Nat.le_of_eq W129.size.symm)
  obtain ⟨T131, h131, k131, X131, e131, E131, A131, Ea131, st131⟩ := newPE X129 hx hZ (own_w hw 4 rfl) e129 (g := (mkF m 101 #[oI p0, oI p1, oI p2, oI p3, oI pp, oI qq, oD d0, oV, oD d1, oV, oD ee_103, oV, oR b105, oR b115, oU, oU, oU, oU] [(.int 2), (.ref b121), (.double (FP.i2d p2)), (.ref b115)])) rfl (hb hby at_101) rfl (by decide) (cap := 2) (by decide) (by decide) (by decide) (by decide) (ad := "[D") (by decide)
  obtain ⟨b131, g131⟩ : ∃ z, z = h129.size := ⟨_, rfl⟩
  rw [← g131] at A131 Ea131 st131
  have g_b131 : n0 ≤ b131 := Nat.le_trans ZZ130 (Nat.le_of_eq g131.symm)
  have ZZ132 : n0 ≤ h131.size := Nat.le_trans ZZ130 E131.1
  have V_b131 : Arv Z h131 b131 k131 .double (2 : Int32) [(.double 0), (.double 0)] (.double 0) := (Arv.new A131 (by decide)).pad (pad_rep [] (.double 0) 2)
  obtain ⟨cl133, Ar133, qk133, Sz133, Nz133, Hh133, Gg133⟩ := id V_b131
  have hin134 : ¬ ((0 : Int32) < 0 ∨ cl133.slots.size ≤ ((0 : Int32)).toNatClampNeg) := inb_of Sz133 ⟨by decide, by decide⟩
  obtain ⟨T135, h135, X135, e135, W135, st135⟩ := stD X131 hx hZ e131 Ar133 (j := (0 : Int32)) hin134 (g := (mkF m 106 #[oI p0, oI p1, oI p2, oI p3, oI pp, oI qq, oD d0, oV, oD d1, oV, oD ee_103, oV, oR b105, oR b115, oU, oU, oU, oU] [(.double 4607182418800017408), (.int 0), (.ref b131), (.ref b131), (.ref b121), (.double (FP.i2d p2)), (.ref b115)])) rfl rfl (hb hby at_106)
  have Va135 := Arv.set Ar133 qk133 Sz133 Nz133 Hh133 Gg133 rfl W135 0 rfl (Nat.le_of_ble_eq_true rfl)
  have N135 := Fr.snoc X135 N129 g_b131
  have ZZ136 : n0 ≤ h135.size := Nat.le_trans ZZ132 (Nat.le_of_eq W135.size.symm)
  obtain ⟨cl137, Ar137, qk137, Sz137, Nz137, Hh137, Gg137⟩ := id Va135
  have hin138 : ¬ ((1 : Int32) < 0 ∨ cl137.slots.size ≤ ((1 : Int32)).toNatClampNeg) := inb_of Sz137 ⟨by decide, by decide⟩
  obtain ⟨T139, h139, X139, e139, W139, st139⟩ := stD X135 hx hZ e135 Ar137 (j := (1 : Int32)) hin138 (g := (mkF m 112 #[oI p0, oI p1, oI p2, oI p3, oI pp, oI qq, oD d0, oV, oD d1, oV, oD ee_103, oV, oR b105, oR b115, oU, oU, oU, oU] [(.double 13830554455654793216), (.int 1), (.ref b131), (.ref b131), (.ref b121), (.double (FP.i2d p2)), (.ref b115)])) rfl rfl (hb hby at_112)
  have Va139 := Arv.set Ar137 qk137 Sz137 Nz137 Hh137 Gg137 rfl W139 1 rfl (Nat.le_of_ble_eq_true rfl)
  have N139 := Fr.snoc X139 N135 g_b131
  have ZZ140 : n0 ≤ h139.size := Nat.le_trans ZZ136 (Nat.le_of_eq W139.size.symm)
  have nq141 : b115 ≠ b121 := (Nat.ne_of_lt (Nat.lt_of_lt_of_le P119_49.lt (Nat.le_of_eq g121.symm)))
  have nq142 : b115 ≠ b131 := (Nat.ne_of_lt (Nat.lt_of_lt_of_le (((P119_49.ext E121).wr W125).wr W129).lt (Nat.le_of_eq g131.symm)))
  have Fc143 := ((((((P119_37.ext E121).other W125 (Or.inl nq141)).other W129 (Or.inl nq141)).ext E131).other W135 (Or.inl nq142)).other W139 (Or.inl nq142))
  have Fc144 := ((((((P119_38.ext E121).other W125 (Or.inl nq141)).other W129 (Or.inl nq141)).ext E131).other W135 (Or.inl nq142)).other W139 (Or.inl nq142))
  have Fc145 := ((((((P119_39.ext E121).other W125 (Or.inl nq141)).other W129 (Or.inl nq141)).ext E131).other W135 (Or.inl nq142)).other W139 (Or.inl nq142))
  have Fc146 := ((((((P119_40.ext E121).other W125 (Or.inl nq141)).other W129 (Or.inl nq141)).ext E131).other W135 (Or.inl nq142)).other W139 (Or.inl nq142))
  have Fc147 := ((((((P119_41.ext E121).other W125 (Or.inl nq141)).other W129 (Or.inl nq141)).ext E131).other W135 (Or.inl nq142)).other W139 (Or.inl nq142))
  have Fc148 := ((((((P119_42.ext E121).other W125 (Or.inl nq141)).other W129 (Or.inl nq141)).ext E131).other W135 (Or.inl nq142)).other W139 (Or.inl nq142))
  have Fc149 := ((((((P119_43.ext E121).other W125 (Or.inl nq141)).other W129 (Or.inl nq141)).ext E131).other W135 (Or.inl nq142)).other W139 (Or.inl nq142))
  have Fc150 := ((((((P119_44.ext E121).other W125 (Or.inl nq141)).other W129 (Or.inl nq141)).ext E131).other W135 (Or.inl nq142)).other W139 (Or.inl nq142))
  have Fc151 := ((((((P119_45.ext E121).other W125 (Or.inl nq141)).other W129 (Or.inl nq141)).ext E131).other W135 (Or.inl nq142)).other W139 (Or.inl nq142))
  have Fc152 := ((((((P119_46.ext E121).other W125 (Or.inl nq141)).other W129 (Or.inl nq141)).ext E131).other W135 (Or.inl nq142)).other W139 (Or.inl nq142))
  have Fc153 := ((((((P119_47.ext E121).other W125 (Or.inl nq141)).other W129 (Or.inl nq141)).ext E131).other W135 (Or.inl nq142)).other W139 (Or.inl nq142))
  have Fc154 := ((((((P119_48.ext E121).other W125 (Or.inl nq141)).other W129 (Or.inl nq141)).ext E131).other W135 (Or.inl nq142)).other W139 (Or.inl nq142))
  have Fc155 := ((((((P119_49.ext E121).wr W125).wr W129).ext E131).wr W135).wr W139)
  have nq156 : co_119 ≠ b121 := (Nat.ne_of_lt (Nat.lt_of_lt_of_le P119_23.lt (Nat.le_of_eq g121.symm)))
  have nq157 : co_119 ≠ b131 := (Nat.ne_of_lt (Nat.lt_of_lt_of_le (((P119_23.ext E121).wr W125).wr W129).lt (Nat.le_of_eq g131.symm)))
  have Fc158 := ((((((P119_12.ext E121).other W125 nq156).other W129 nq156).ext E131).other W135 nq157).other W139 nq157)
  have nq159 : fr_119 ≠ b121 := (Nat.ne_of_lt (Nat.lt_of_lt_of_le P119_24.lt (Nat.le_of_eq g121.symm)))
  have nq160 : fr_119 ≠ b131 := (Nat.ne_of_lt (Nat.lt_of_lt_of_le (((P119_24.ext E121).wr W125).wr W129).lt (Nat.le_of_eq g131.symm)))
  have Fc161 := ((((((P119_13.ext E121).other W125 nq159).other W129 nq159).ext E131).other W135 nq160).other W139 nq160)
  have nq162 : er_119 ≠ b121 := (Nat.ne_of_lt (Nat.lt_of_lt_of_le P119_25.lt (Nat.le_of_eq g121.symm)))
  have nq163 : er_119 ≠ b131 := (Nat.ne_of_lt (Nat.lt_of_lt_of_le (((P119_25.ext E121).wr W125).wr W129).lt (Nat.le_of_eq g131.symm)))
  have Fc164 := ((((((P119_14.ext E121).other W125 nq162).other W129 nq162).ext E131).other W135 nq163).other W139 nq163)
  have nq165 : ev_119 ≠ b121 := (Nat.ne_of_lt (Nat.lt_of_lt_of_le P119_26.lt (Nat.le_of_eq g121.symm)))
  have nq166 : ev_119 ≠ b131 := (Nat.ne_of_lt (Nat.lt_of_lt_of_le (((P119_26.ext E121).wr W125).wr W129).lt (Nat.le_of_eq g131.symm)))
  have Fc167 := ((((((P119_15.ext E121).other W125 nq165).other W129 nq165).ext E131).other W135 nq166).other W139 nq166)
  have nq168 : pl_119 ≠ b121 := (Nat.ne_of_lt (Nat.lt_of_lt_of_le P119_27.lt (Nat.le_of_eq g121.symm)))
  have nq169 : pl_119 ≠ b131 := (Nat.ne_of_lt (Nat.lt_of_lt_of_le (((P119_27.ext E121).wr W125).wr W129).lt (Nat.le_of_eq g131.symm)))
  have Fc170 := ((((((P119_16.ext E121).other W125 nq168).other W129 nq168).ext E131).other W135 nq169).other W139 nq169)
  have nq171 : b121 ≠ b131 := (Nat.ne_of_lt (Nat.lt_of_lt_of_le Va129.lt (Nat.le_of_eq g131.symm)))
  have Fc172 := (((Va129.ext E131).other W135 nq171).other W139 nq171)
  have Fc173 := ((((((P119_23.ext E121).wr W125).wr W129).ext E131).wr W135).wr W139)
  have Fc174 := ((((((P119_24.ext E121).wr W125).wr W129).ext E131).wr W135).wr W139)
  have Fc175 := ((((((P119_25.ext E121).wr W125).wr W129).ext E131).wr W135).wr W139)
  have Fc176 := ((((((P119_26.ext E121).wr W125).wr W129).ext E131).wr W135).wr W139)
  have Fc177 := ((((((P119_27.ext E121).wr W125).wr W129).ext E131).wr W135).wr W139)
  have Fc178 := (((((Ea121.wr W125).wr W129).ext E131).wr W135).wr W139)
  have Fc179 := ((Ea131.wr W135).wr W139)
  obtain ⟨_, T180, L180, X180, hQ180, st180⟩ := own_cV X139 hx hZ hw hown (b := b115) (W := 0) (rmm4 l Z a0 hw [] b115 (FP.i2d p2) b121 b131 (0 : Int32) 0 [(.double 0), (.double 0), (.double 0)] [(.int 0), (.int 0), (.int 0)] [.null, .null, .null] [.null, .null, .null] [(.int 0), (.int 0), (.int 0)] co_119 fr_119 er_119 ev_119 pl_119 kco_119 kfr_119 ker_119 kev_119 kpl_119 k121 k131 (2 : Int32) (2 : Int32) [(.int 0), (.int 1)] [(.double 4607182418800017408), (.double 13830554455654793216)] (.int 2) (.ref rh_119) (.ref ba_119) (.ref ri_119) (.ref va_119) (.int 0) h139 n0 ZZ140 Fc143 Fc144 Fc145 Fc146 Fc147 Fc148 Fc149 Fc150 Fc151 Fc152 Fc153 Fc154 Fc155 g_b115 g_co_119 g_fr_119 g_er_119 g_ev_119 g_pl_119 Fc158 Fc161 Fc164 Fc167 Fc170 Fc172 Va139 Fc173 Fc174 Fc175 Fc176 Fc177 Fc178 Fc179 P119_34 P119_35 (Ne.symm nq157) (by decide) (⟨by decide, by decide⟩) (by decide) (by decide) (by decide) (Nat.le_of_ble_eq_true rfl) (Nat.le_of_ble_eq_true rfl) (Nat.le_of_ble_eq_true rfl) (Nat.le_of_ble_eq_true rfl) (Nat.le_of_ble_eq_true rfl)) (by decide) (by decide) (by decide) 50 rfl 51 rfl 53 rfl 52 rfl 54 rfl 7 rfl e139 Fc155 (g := (mkF m 114 #[oI p0, oI p1, oI p2, oI p3, oI pp, oI qq, oD d0, oV, oD d1, oV, oD ee_103, oV, oR b105, oR b115, oU, oU, oU, oU] [(.int 0), (.ref b131), (.ref b121), (.double (FP.i2d p2)), (.ref b115)])) rfl (by rw [hml]; rfl) (argsL := [(.double (FP.i2d p2)), (.ref b121), (.ref b131), (.int 0)]) (rest := []) (lenOf pd8 rfl) rfl (Nat.le_of_eq rfl) (hb hby at_114) rfl (cN := 17) rfl (by decide) (sN := 114) rfl (by decide)
  obtain ⟨xa_180, xb_180, rfl, Nq180, P180_0, P180_1, P180_2, P180_3, P180_4, P180_5, P180_6, P180_7, P180_8, P180_9, P180_10, P180_11, P180_12, P180_13, P180_14, P180_15, P180_16, P180_17, P180_18, P180_19, P180_20, P180_21, P180_22, P180_23, P180_24⟩ := hQ180
  have N180 := Fr.app N139 Nq180
  have g_xa_180 : n0 ≤ xa_180 := Nat.le_trans ZZ140 P180_1
  have g_xb_180 : n0 ≤ xb_180 := Nat.le_trans ZZ140 P180_2
  have ZZ181 : n0 ≤ T180.heap.size := Nat.le_trans ZZ140 P180_0.1
  have Vr182 : Arv Z T180.heap co_119 kco_119 .double (16 : Int32) [(.double (FP.i2d p2)), (.double 0), (.double 0)] (.double 0) := P180_3
  have Vr183 : Arv Z T180.heap fr_119 kfr_119 .boolean (16 : Int32) [(.int 0), (.int 0), (.int 0)] (.int 0) := P180_4
  have Vr184 : Arv Z T180.heap er_119 ker_119 (.array .int) (16 : Int32) [(.ref xa_180), .null, .null] .null := P180_5
  have Vr185 : Arv Z T180.heap ev_119 kev_119 (.array .double) (16 : Int32) [(.ref xb_180), .null, .null] .null := P180_6
  have Vr186 : Arv Z T180.heap pl_119 kpl_119 .int (16 : Int32) [(.int (-1)), (.int 0), (.int 0)] (.int 0) := P180_7
  obtain ⟨T187, h187, k187, X187, e187, E187, A187, Ea187, st187⟩ := newPE X180 hx hZ (own_w hw 27 rfl) rfl (g := (mkF m 123 #[oI p0, oI p1, oI p2, oI p3, oI pp, oI qq, oD d0, oV, oD d1, oV, oD ee_103, oV, oR b105, oR b115, oU, oU, oU, oU] [(.int 1), (.double (FP.i2d p0)), (.ref b115)])) rfl (hb hby at_123) rfl (by decide) (cap := 1) (by decide) (by decide) (by decide) (by decide) (ad := "[I") (by decide)
  obtain ⟨b187, g187⟩ : ∃ z, z = T180.heap.size := ⟨_, rfl⟩
  rw [← g187] at A187 Ea187 st187
  have g_b187 : n0 ≤ b187 := Nat.le_trans ZZ181 (Nat.le_of_eq g187.symm)
  have ZZ188 : n0 ≤ h187.size := Nat.le_trans ZZ181 E187.1
  have V_b187 : Arv Z h187 b187 k187 .int (1 : Int32) [(.int 0)] (.int 0) := (Arv.new A187 (by decide)).pad (pad_rep [] (.int 0) 1)
  obtain ⟨cl189, Ar189, qk189, Sz189, Nz189, Hh189, Gg189⟩ := id V_b187
  have hin190 : ¬ ((0 : Int32) < 0 ∨ cl189.slots.size ≤ ((0 : Int32)).toNatClampNeg) := inb_of Sz189 ⟨by decide, by decide⟩
  obtain ⟨T191, h191, X191, e191, W191, st191⟩ := stI X187 hx hZ e187 Ar189 (j := (0 : Int32)) hin190 (g := (mkF m 129 #[oI p0, oI p1, oI p2, oI p3, oI pp, oI qq, oD d0, oV, oD d1, oV, oD ee_103, oV, oR b105, oR b115, oU, oU, oU, oU] [(.int pp), (.int 0), (.ref b187), (.ref b187), (.double (FP.i2d p0)), (.ref b115)])) rfl rfl (hb hby at_129)
  have Va191 := Arv.set Ar189 qk189 Sz189 Nz189 Hh189 Gg189 rfl W191 0 rfl (Nat.le_of_ble_eq_true rfl)
  have N191 := Fr.snoc X191 N180 g_b187
  have ZZ192 : n0 ≤ h191.size := Nat.le_trans ZZ188 (Nat.le_of_eq W191.size.symm)
  obtain ⟨T193, h193, k193, X193, e193, E193, A193, Ea193, st193⟩ := newPE X191 hx hZ (own_w hw 4 rfl) e191 (g := (mkF m 131 #[oI p0, oI p1, oI p2, oI p3, oI pp, oI qq, oD d0, oV, oD d1, oV, oD ee_103, oV, oR b105, oR b115, oU, oU, oU, oU] [(.int 1), (.ref b187), (.double (FP.i2d p0)), (.ref b115)])) rfl (hb hby at_131) rfl (by decide) (cap := 1) (by decide) (by decide) (by decide) (by decide) (ad := "[D") (by decide)
  obtain ⟨b193, g193⟩ : ∃ z, z = h191.size := ⟨_, rfl⟩
  rw [← g193] at A193 Ea193 st193
  have g_b193 : n0 ≤ b193 := Nat.le_trans ZZ192 (Nat.le_of_eq g193.symm)
  have ZZ194 : n0 ≤ h193.size := Nat.le_trans ZZ192 E193.1
  have V_b193 : Arv Z h193 b193 k193 .double (1 : Int32) [(.double 0)] (.double 0) := (Arv.new A193 (by decide)).pad (pad_rep [] (.double 0) 1)
  obtain ⟨cl195, Ar195, qk195, Sz195, Nz195, Hh195, Gg195⟩ := id V_b193
  have hin196 : ¬ ((0 : Int32) < 0 ∨ cl195.slots.size ≤ ((0 : Int32)).toNatClampNeg) := inb_of Sz195 ⟨by decide, by decide⟩
  obtain ⟨T197, h197, X197, e197, W197, st197⟩ := stD X193 hx hZ e193 Ar195 (j := (0 : Int32)) hin196 (g := (mkF m 137 #[oI p0, oI p1, oI p2, oI p3, oI pp, oI qq, oD d0, oV, oD d1, oV, oD ee_103, oV, oR b105, oR b115, oU, oU, oU, oU] [(.double d0), (.int 0), (.ref b193), (.ref b193), (.ref b187), (.double (FP.i2d p0)), (.ref b115)])) rfl rfl (hb hby at_137)
  have Va197 := Arv.set Ar195 qk195 Sz195 Nz195 Hh195 Gg195 rfl W197 0 rfl (Nat.le_of_ble_eq_true rfl)
  have N197 := Fr.snoc X197 N191 g_b193
  have ZZ198 : n0 ≤ h197.size := Nat.le_trans ZZ194 (Nat.le_of_eq W197.size.symm)
  have nq199 : b115 ≠ b187 := (Nat.ne_of_lt (Nat.lt_of_lt_of_le P180_24.lt (Nat.le_of_eq g187.symm)))
  have nq200 : b115 ≠ b193 := (Nat.ne_of_lt (Nat.lt_of_lt_of_le ((P180_24.ext E187).wr W191).lt (Nat.le_of_eq g193.symm)))
  have Fc201 := ((((P180_12.ext E187).other W191 (Or.inl nq199)).ext E193).other W197 (Or.inl nq200))
  have Fc202 := ((((P180_13.ext E187).other W191 (Or.inl nq199)).ext E193).other W197 (Or.inl nq200))
  have Fc203 := ((((P180_14.ext E187).other W191 (Or.inl nq199)).ext E193).other W197 (Or.inl nq200))
  have Fc204 := ((((P180_15.ext E187).other W191 (Or.inl nq199)).ext E193).other W197 (Or.inl nq200))
  have Fc205 := ((((P180_16.ext E187).other W191 (Or.inl nq199)).ext E193).other W197 (Or.inl nq200))
  have Fc206 := ((((P180_17.ext E187).other W191 (Or.inl nq199)).ext E193).other W197 (Or.inl nq200))
  have Fc207 := ((((P180_18.ext E187).other W191 (Or.inl nq199)).ext E193).other W197 (Or.inl nq200))
  have Fc208 := ((((P180_19.ext E187).other W191 (Or.inl nq199)).ext E193).other W197 (Or.inl nq200))
  have Fc209 := ((((P180_20.ext E187).other W191 (Or.inl nq199)).ext E193).other W197 (Or.inl nq200))
  have Fc210 := ((((P180_21.ext E187).other W191 (Or.inl nq199)).ext E193).other W197 (Or.inl nq200))
  have Fc211 := ((((P180_22.ext E187).other W191 (Or.inl nq199)).ext E193).other W197 (Or.inl nq200))
  have Fc212 := ((((P180_23.ext E187).other W191 (Or.inl nq199)).ext E193).other W197 (Or.inl nq200))
  have Fc213 := ((((P180_24.ext E187).wr W191).ext E193).wr W197)
  have nq214 : co_119 ≠ b187 := (Nat.ne_of_lt (Nat.lt_of_lt_of_le Vr182.lt (Nat.le_of_eq g187.symm)))
  have nq215 : co_119 ≠ b193 := (Nat.ne_of_lt (Nat.lt_of_lt_of_le ((Vr182.ext E187).other W191 nq214).lt (Nat.le_of_eq g193.symm)))
  have Fc216 := ((((Vr182.ext E187).other W191 nq214).ext E193).other W197 nq215)
  have nq217 : fr_119 ≠ b187 := (Nat.ne_of_lt (Nat.lt_of_lt_of_le Vr183.lt (Nat.le_of_eq g187.symm)))
  have nq218 : fr_119 ≠ b193 := (Nat.ne_of_lt (Nat.lt_of_lt_of_le ((Vr183.ext E187).other W191 nq217).lt (Nat.le_of_eq g193.symm)))
  have Fc219 := ((((Vr183.ext E187).other W191 nq217).ext E193).other W197 nq218)
  have nq220 : er_119 ≠ b187 := (Nat.ne_of_lt (Nat.lt_of_lt_of_le Vr184.lt (Nat.le_of_eq g187.symm)))
  have nq221 : er_119 ≠ b193 := (Nat.ne_of_lt (Nat.lt_of_lt_of_le ((Vr184.ext E187).other W191 nq220).lt (Nat.le_of_eq g193.symm)))
  have Fc222 := ((((Vr184.ext E187).other W191 nq220).ext E193).other W197 nq221)
  have nq223 : ev_119 ≠ b187 := (Nat.ne_of_lt (Nat.lt_of_lt_of_le Vr185.lt (Nat.le_of_eq g187.symm)))
  have nq224 : ev_119 ≠ b193 := (Nat.ne_of_lt (Nat.lt_of_lt_of_le ((Vr185.ext E187).other W191 nq223).lt (Nat.le_of_eq g193.symm)))
  have Fc225 := ((((Vr185.ext E187).other W191 nq223).ext E193).other W197 nq224)
  have nq226 : pl_119 ≠ b187 := (Nat.ne_of_lt (Nat.lt_of_lt_of_le Vr186.lt (Nat.le_of_eq g187.symm)))
  have nq227 : pl_119 ≠ b193 := (Nat.ne_of_lt (Nat.lt_of_lt_of_le ((Vr186.ext E187).other W191 nq226).lt (Nat.le_of_eq g193.symm)))
  have Fc228 := ((((Vr186.ext E187).other W191 nq226).ext E193).other W197 nq227)
  have nq229 : b187 ≠ b193 := (Nat.ne_of_lt (Nat.lt_of_lt_of_le Va191.lt (Nat.le_of_eq g193.symm)))
  have Fc230 := ((Va191.ext E193).other W197 nq229)
  have Fc231 := (((((Fc173.keep P180_0).ext E187).wr W191).ext E193).wr W197)
  have Fc232 := (((((Fc174.keep P180_0).ext E187).wr W191).ext E193).wr W197)
  have Fc233 := (((((Fc175.keep P180_0).ext E187).wr W191).ext E193).wr W197)
  have Fc234 := (((((Fc176.keep P180_0).ext E187).wr W191).ext E193).wr W197)
  have Fc235 := (((((Fc177.keep P180_0).ext E187).wr W191).ext E193).wr W197)
  have Fc236 := (((Ea187.wr W191).ext E193).wr W197)
  obtain ⟨_, T237, L237, X237, hQ237, st237⟩ := own_cV X197 hx hZ hw hown (b := b115) (W := 0) (rmm4 l Z a0 hw [] b115 (FP.i2d p0) b187 b193 ((0 : Int32) + (1 : Int32)) 1 [(.double (FP.i2d p2)), (.double 0), (.double 0)] [(.int 0), (.int 0), (.int 0)] [(.ref xa_180), .null, .null] [(.ref xb_180), .null, .null] [(.int (-1)), (.int 0), (.int 0)] co_119 fr_119 er_119 ev_119 pl_119 kco_119 kfr_119 ker_119 kev_119 kpl_119 k187 k193 (1 : Int32) (1 : Int32) [(.int pp)] [(.double d0)] (.int 2) (.ref rh_119) (.ref ba_119) (.ref ri_119) (.ref va_119) (.int 0) h197 n0 ZZ198 Fc201 Fc202 Fc203 Fc204 Fc205 Fc206 Fc207 Fc208 Fc209 Fc210 Fc211 Fc212 Fc213 g_b115 g_co_119 g_fr_119 g_er_119 g_ev_119 g_pl_119 Fc216 Fc219 Fc222 Fc225 Fc228 Fc230 Va197 Fc231 Fc232 Fc233 Fc234 Fc235 Fc236 (Ea193.wr W197) P119_34 P119_35 (Ne.symm nq215) (by decide) (⟨by decide, by decide⟩) (by decide) (by decide) (by decide) (Nat.le_of_ble_eq_true rfl) (Nat.le_of_ble_eq_true rfl) (Nat.le_of_ble_eq_true rfl) (Nat.le_of_ble_eq_true rfl) (Nat.le_of_ble_eq_true rfl)) (by decide) (by decide) (by decide) 50 rfl 51 rfl 53 rfl 52 rfl 54 rfl 7 rfl e197 Fc213 (g := (mkF m 139 #[oI p0, oI p1, oI p2, oI p3, oI pp, oI qq, oD d0, oV, oD d1, oV, oD ee_103, oV, oR b105, oR b115, oU, oU, oU, oU] [(.int 0), (.ref b193), (.ref b187), (.double (FP.i2d p0)), (.ref b115)])) rfl (by rw [hml]; rfl) (argsL := [(.double (FP.i2d p0)), (.ref b187), (.ref b193), (.int 0)]) (rest := []) (lenOf pd8 rfl) rfl (Nat.le_of_eq rfl) (hb hby at_139) rfl (cN := 21) rfl (by decide) (sN := 120) rfl (by decide)
  obtain ⟨xa_237, xb_237, rfl, Nq237, P237_0, P237_1, P237_2, P237_3, P237_4, P237_5, P237_6, P237_7, P237_8, P237_9, P237_10, P237_11, P237_12, P237_13, P237_14, P237_15, P237_16, P237_17, P237_18, P237_19, P237_20, P237_21, P237_22, P237_23, P237_24⟩ := hQ237
  have N237 := Fr.app N197 Nq237
  have g_xa_237 : n0 ≤ xa_237 := Nat.le_trans ZZ198 P237_1
  have g_xb_237 : n0 ≤ xb_237 := Nat.le_trans ZZ198 P237_2
  have ZZ238 : n0 ≤ T237.heap.size := Nat.le_trans ZZ198 P237_0.1
  have Vr239 : Arv Z T237.heap co_119 kco_119 .double (16 : Int32) [(.double (FP.i2d p2)), (.double (FP.i2d p0)), (.double 0)] (.double 0) := P237_3
  have Vr240 : Arv Z T237.heap fr_119 kfr_119 .boolean (16 : Int32) [(.int 0), (.int 0), (.int 0)] (.int 0) := P237_4
  have Vr241 : Arv Z T237.heap er_119 ker_119 (.array .int) (16 : Int32) [(.ref xa_180), (.ref xa_237), .null] .null := P237_5
  have Vr242 : Arv Z T237.heap ev_119 kev_119 (.array .double) (16 : Int32) [(.ref xb_180), (.ref xb_237), .null] .null := P237_6
  have Vr243 : Arv Z T237.heap pl_119 kpl_119 .int (16 : Int32) [(.int (-1)), (.int (-1)), (.int 0)] (.int 0) := P237_7
  obtain ⟨T244, h244, k244, X244, e244, E244, A244, Ea244, st244⟩ := newPE X237 hx hZ (own_w hw 27 rfl) rfl (g := (mkF m 148 #[oI p0, oI p1, oI p2, oI p3, oI pp, oI qq, oD d0, oV, oD d1, oV, oD ee_103, oV, oR b105, oR b115, oU, oU, oU, oU] [(.int 2), (.double (FP.i2d p1)), (.ref b115)])) rfl (hb hby at_148) rfl (by decide) (cap := 2) (by decide) (by decide) (by decide) (by decide) (ad := "[I") (by decide)
  obtain ⟨b244, g244⟩ : ∃ z, z = T237.heap.size := ⟨_, rfl⟩
  rw [← g244] at A244 Ea244 st244
  have g_b244 : n0 ≤ b244 := Nat.le_trans ZZ238 (Nat.le_of_eq g244.symm)
  have ZZ245 : n0 ≤ h244.size := Nat.le_trans ZZ238 E244.1
  have V_b244 : Arv Z h244 b244 k244 .int (2 : Int32) [(.int 0), (.int 0)] (.int 0) := (Arv.new A244 (by decide)).pad (pad_rep [] (.int 0) 2)
  obtain ⟨cl246, Ar246, qk246, Sz246, Nz246, Hh246, Gg246⟩ := id V_b244
  have hin247 : ¬ ((0 : Int32) < 0 ∨ cl246.slots.size ≤ ((0 : Int32)).toNatClampNeg) := inb_of Sz246 ⟨by decide, by decide⟩
  obtain ⟨T248, h248, X248, e248, W248, st248⟩ := stI X244 hx hZ e244 Ar246 (j := (0 : Int32)) hin247 (g := (mkF m 154 #[oI p0, oI p1, oI p2, oI p3, oI pp, oI qq, oD d0, oV, oD d1, oV, oD ee_103, oV, oR b105, oR b115, oU, oU, oU, oU] [(.int pp), (.int 0), (.ref b244), (.ref b244), (.double (FP.i2d p1)), (.ref b115)])) rfl rfl (hb hby at_154)
  have Va248 := Arv.set Ar246 qk246 Sz246 Nz246 Hh246 Gg246 rfl W248 0 rfl (Nat.le_of_ble_eq_true rfl)
  have N248 := Fr.snoc X248 N237 g_b244
  have ZZ249 : n0 ≤ h248.size := Nat.le_trans ZZ245 (Nat.le_of_eq W248.size.symm)
  obtain ⟨cl250, Ar250, qk250, Sz250, Nz250, Hh250, Gg250⟩ := id Va248
  have hin251 : ¬ ((1 : Int32) < 0 ∨ cl250.slots.size ≤ ((1 : Int32)).toNatClampNeg) := inb_of Sz250 ⟨by decide, by decide⟩
  obtain ⟨T252, h252, X252, e252, W252, st252⟩ := stI X248 hx hZ e248 Ar250 (j := (1 : Int32)) hin251 (g := (mkF m 161 #[oI p0, oI p1, oI p2, oI p3, oI pp, oI qq, oD d0, oV, oD d1, oV, oD ee_103, oV, oR b105, oR b115, oU, oU, oU, oU] [(.int pq), (.int 1), (.ref b244), (.ref b244), (.double (FP.i2d p1)), (.ref b115)])) rfl rfl (hb hby at_161)
  have Va252 := Arv.set Ar250 qk250 Sz250 Nz250 Hh250 Gg250 rfl W252 1 rfl (Nat.le_of_ble_eq_true rfl)
  have N252 := Fr.snoc X252 N248 g_b244
  have ZZ253 : n0 ≤ h252.size := Nat.le_trans ZZ249 (Nat.le_of_eq W252.size.symm)
  obtain ⟨T254, h254, k254, X254, e254, E254, A254, Ea254, st254⟩ := newPE X252 hx hZ (own_w hw 4 rfl) e252 (g := (mkF m 163 #[oI p0, oI p1, oI p2, oI p3, oI pp, oI qq, oD d0, oV, oD d1, oV, oD ee_103, oV, oR b105, oR b115, oU, oU, oU, oU] [(.int 2), (.ref b244), (.double (FP.i2d p1)), (.ref b115)])) rfl (hb hby at_163) rfl (by decide) (cap := 2) (by decide) (by decide) (by decide) (by decide) (ad := "[D") (by decide)
  obtain ⟨b254, g254⟩ : ∃ z, z = h252.size := ⟨_, rfl⟩
  rw [← g254] at A254 Ea254 st254
  have g_b254 : n0 ≤ b254 := Nat.le_trans ZZ253 (Nat.le_of_eq g254.symm)
  have ZZ255 : n0 ≤ h254.size := Nat.le_trans ZZ253 E254.1
  have V_b254 : Arv Z h254 b254 k254 .double (2 : Int32) [(.double 0), (.double 0)] (.double 0) := (Arv.new A254 (by decide)).pad (pad_rep [] (.double 0) 2)
  obtain ⟨cl256, Ar256, qk256, Sz256, Nz256, Hh256, Gg256⟩ := id V_b254
  have hin257 : ¬ ((0 : Int32) < 0 ∨ cl256.slots.size ≤ ((0 : Int32)).toNatClampNeg) := inb_of Sz256 ⟨by decide, by decide⟩
  obtain ⟨T258, h258, X258, e258, W258, st258⟩ := stD X254 hx hZ e254 Ar256 (j := (0 : Int32)) hin257 (g := (mkF m 169 #[oI p0, oI p1, oI p2, oI p3, oI pp, oI qq, oD d0, oV, oD d1, oV, oD ee_103, oV, oR b105, oR b115, oU, oU, oU, oU] [(.double ee_103), (.int 0), (.ref b254), (.ref b254), (.ref b244), (.double (FP.i2d p1)), (.ref b115)])) rfl rfl (hb hby at_169)
  have Va258 := Arv.set Ar256 qk256 Sz256 Nz256 Hh256 Gg256 rfl W258 0 rfl (Nat.le_of_ble_eq_true rfl)
  have N258 := Fr.snoc X258 N252 g_b254
  have ZZ259 : n0 ≤ h258.size := Nat.le_trans ZZ255 (Nat.le_of_eq W258.size.symm)
  obtain ⟨cl260, Ar260, qk260, Sz260, Nz260, Hh260, Gg260⟩ := id Va258
  have hin261 : ¬ ((1 : Int32) < 0 ∨ cl260.slots.size ≤ ((1 : Int32)).toNatClampNeg) := inb_of Sz260 ⟨by decide, by decide⟩
  obtain ⟨T262, h262, X262, e262, W262, st262⟩ := stD X258 hx hZ e258 Ar260 (j := (1 : Int32)) hin261 (g := (mkF m 174 #[oI p0, oI p1, oI p2, oI p3, oI pp, oI qq, oD d0, oV, oD d1, oV, oD ee_103, oV, oR b105, oR b115, oU, oU, oU, oU] [(.double d1), (.int 1), (.ref b254), (.ref b254), (.ref b244), (.double (FP.i2d p1)), (.ref b115)])) rfl rfl (hb hby at_174)
  have Va262 := Arv.set Ar260 qk260 Sz260 Nz260 Hh260 Gg260 rfl W262 1 rfl (Nat.le_of_ble_eq_true rfl)
  have N262 := Fr.snoc X262 N258 g_b254
  have ZZ263 : n0 ≤ h262.size := Nat.le_trans ZZ259 (Nat.le_of_eq W262.size.symm)
  have nq264 : b115 ≠ b244 := (Nat.ne_of_lt (Nat.lt_of_lt_of_le P237_24.lt (Nat.le_of_eq g244.symm)))
  have nq265 : b115 ≠ b254 := (Nat.ne_of_lt (Nat.lt_of_lt_of_le (((P237_24.ext E244).wr W248).wr W252).lt (Nat.le_of_eq g254.symm)))
  have Fc266 := ((((((P237_12.ext E244).other W248 (Or.inl nq264)).other W252 (Or.inl nq264)).ext E254).other W258 (Or.inl nq265)).other W262 (Or.inl nq265))
  have Fc267 := ((((((P237_13.ext E244).other W248 (Or.inl nq264)).other W252 (Or.inl nq264)).ext E254).other W258 (Or.inl nq265)).other W262 (Or.inl nq265))
  have Fc268 := ((((((P237_14.ext E244).other W248 (Or.inl nq264)).other W252 (Or.inl nq264)).ext E254).other W258 (Or.inl nq265)).other W262 (Or.inl nq265))
  have Fc269 := ((((((P237_15.ext E244).other W248 (Or.inl nq264)).other W252 (Or.inl nq264)).ext E254).other W258 (Or.inl nq265)).other W262 (Or.inl nq265))
  have Fc270 := ((((((P237_16.ext E244).other W248 (Or.inl nq264)).other W252 (Or.inl nq264)).ext E254).other W258 (Or.inl nq265)).other W262 (Or.inl nq265))
  have Fc271 := ((((((P237_17.ext E244).other W248 (Or.inl nq264)).other W252 (Or.inl nq264)).ext E254).other W258 (Or.inl nq265)).other W262 (Or.inl nq265))
  have Fc272 := ((((((P237_18.ext E244).other W248 (Or.inl nq264)).other W252 (Or.inl nq264)).ext E254).other W258 (Or.inl nq265)).other W262 (Or.inl nq265))
  have Fc273 := ((((((P237_19.ext E244).other W248 (Or.inl nq264)).other W252 (Or.inl nq264)).ext E254).other W258 (Or.inl nq265)).other W262 (Or.inl nq265))
  have Fc274 := ((((((P237_20.ext E244).other W248 (Or.inl nq264)).other W252 (Or.inl nq264)).ext E254).other W258 (Or.inl nq265)).other W262 (Or.inl nq265))
  have Fc275 := ((((((P237_21.ext E244).other W248 (Or.inl nq264)).other W252 (Or.inl nq264)).ext E254).other W258 (Or.inl nq265)).other W262 (Or.inl nq265))
  have Fc276 := ((((((P237_22.ext E244).other W248 (Or.inl nq264)).other W252 (Or.inl nq264)).ext E254).other W258 (Or.inl nq265)).other W262 (Or.inl nq265))
  have Fc277 := ((((((P237_23.ext E244).other W248 (Or.inl nq264)).other W252 (Or.inl nq264)).ext E254).other W258 (Or.inl nq265)).other W262 (Or.inl nq265))
  have Fc278 := ((((((P237_24.ext E244).wr W248).wr W252).ext E254).wr W258).wr W262)
  have nq279 : co_119 ≠ b244 := (Nat.ne_of_lt (Nat.lt_of_lt_of_le Vr239.lt (Nat.le_of_eq g244.symm)))
  have nq280 : co_119 ≠ b254 := (Nat.ne_of_lt (Nat.lt_of_lt_of_le (((Vr239.ext E244).other W248 nq279).other W252 nq279).lt (Nat.le_of_eq g254.symm)))
  have Fc281 := ((((((Vr239.ext E244).other W248 nq279).other W252 nq279).ext E254).other W258 nq280).other W262 nq280)
  have nq282 : fr_119 ≠ b244 := (Nat.ne_of_lt (Nat.lt_of_lt_of_le Vr240.lt (Nat.le_of_eq g244.symm)))
  have nq283 : fr_119 ≠ b254 := (Nat.ne_of_lt (Nat.lt_of_lt_of_le (((Vr240.ext E244).other W248 nq282).other W252 nq282).lt (Nat.le_of_eq g254.symm)))
  have Fc284 := ((((((Vr240.ext E244).other W248 nq282).other W252 nq282).ext E254).other W258 nq283).other W262 nq283)
  have nq285 : er_119 ≠ b244 := (Nat.ne_of_lt (Nat.lt_of_lt_of_le Vr241.lt (Nat.le_of_eq g244.symm)))
  have nq286 : er_119 ≠ b254 := (Nat.ne_of_lt (Nat.lt_of_lt_of_le (((Vr241.ext E244).other W248 nq285).other W252 nq285).lt (Nat.le_of_eq g254.symm)))
  have Fc287 := ((((((Vr241.ext E244).other W248 nq285).other W252 nq285).ext E254).other W258 nq286).other W262 nq286)
  have nq288 : ev_119 ≠ b244 := (Nat.ne_of_lt (Nat.lt_of_lt_of_le Vr242.lt (Nat.le_of_eq g244.symm)))
  have nq289 : ev_119 ≠ b254 := (Nat.ne_of_lt (Nat.lt_of_lt_of_le (((Vr242.ext E244).other W248 nq288).other W252 nq288).lt (Nat.le_of_eq g254.symm)))
  have Fc290 := ((((((Vr242.ext E244).other W248 nq288).other W252 nq288).ext E254).other W258 nq289).other W262 nq289)
  have nq291 : pl_119 ≠ b244 := (Nat.ne_of_lt (Nat.lt_of_lt_of_le Vr243.lt (Nat.le_of_eq g244.symm)))
  have nq292 : pl_119 ≠ b254 := (Nat.ne_of_lt (Nat.lt_of_lt_of_le (((Vr243.ext E244).other W248 nq291).other W252 nq291).lt (Nat.le_of_eq g254.symm)))
  have Fc293 := ((((((Vr243.ext E244).other W248 nq291).other W252 nq291).ext E254).other W258 nq292).other W262 nq292)
  have nq294 : b244 ≠ b254 := (Nat.ne_of_lt (Nat.lt_of_lt_of_le Va252.lt (Nat.le_of_eq g254.symm)))
  have Fc295 := (((Va252.ext E254).other W258 nq294).other W262 nq294)
  have Fc296 := (((((((Fc231.keep P237_0).ext E244).wr W248).wr W252).ext E254).wr W258).wr W262)
  have Fc297 := (((((((Fc232.keep P237_0).ext E244).wr W248).wr W252).ext E254).wr W258).wr W262)
  have Fc298 := (((((((Fc233.keep P237_0).ext E244).wr W248).wr W252).ext E254).wr W258).wr W262)
  have Fc299 := (((((((Fc234.keep P237_0).ext E244).wr W248).wr W252).ext E254).wr W258).wr W262)
  have Fc300 := (((((((Fc235.keep P237_0).ext E244).wr W248).wr W252).ext E254).wr W258).wr W262)
  have Fc301 := (((((Ea244.wr W248).wr W252).ext E254).wr W258).wr W262)
  have Fc302 := ((Ea254.wr W258).wr W262)
  obtain ⟨_, T303, L303, X303, hQ303, st303⟩ := own_cV X262 hx hZ hw hown (b := b115) (W := 0) (rmm4 l Z a0 hw [] b115 (FP.i2d p1) b244 b254 (((0 : Int32) + (1 : Int32)) + (1 : Int32)) 2 [(.double (FP.i2d p2)), (.double (FP.i2d p0)), (.double 0)] [(.int 0), (.int 0), (.int 0)] [(.ref xa_180), (.ref xa_237), .null] [(.ref xb_180), (.ref xb_237), .null] [(.int (-1)), (.int (-1)), (.int 0)] co_119 fr_119 er_119 ev_119 pl_119 kco_119 kfr_119 ker_119 kev_119 kpl_119 k244 k254 (2 : Int32) (2 : Int32) [(.int pp), (.int pq)] [(.double ee_103), (.double d1)] (.int 2) (.ref rh_119) (.ref ba_119) (.ref ri_119) (.ref va_119) (.int 0) h262 n0 ZZ263 Fc266 Fc267 Fc268 Fc269 Fc270 Fc271 Fc272 Fc273 Fc274 Fc275 Fc276 Fc277 Fc278 g_b115 g_co_119 g_fr_119 g_er_119 g_ev_119 g_pl_119 Fc281 Fc284 Fc287 Fc290 Fc293 Fc295 Va262 Fc296 Fc297 Fc298 Fc299 Fc300 Fc301 Fc302 P119_34 P119_35 (Ne.symm nq280) (by decide) (⟨by decide, by decide⟩) (by decide) (by decide) (by decide) (Nat.le_of_ble_eq_true rfl) (Nat.le_of_ble_eq_true rfl) (Nat.le_of_ble_eq_true rfl) (Nat.le_of_ble_eq_true rfl) (Nat.le_of_ble_eq_true rfl)) (by decide) (by decide) (by decide) 50 rfl 51 rfl 53 rfl 52 rfl 54 rfl 7 rfl e262 Fc278 (g := (mkF m 176 #[oI p0, oI p1, oI p2, oI p3, oI pp, oI qq, oD d0, oV, oD d1, oV, oD ee_103, oV, oR b105, oR b115, oU, oU, oU, oU] [(.int 0), (.ref b254), (.ref b244), (.double (FP.i2d p1)), (.ref b115)])) rfl (by rw [hml]; rfl) (argsL := [(.double (FP.i2d p1)), (.ref b244), (.ref b254), (.int 0)]) (rest := []) (lenOf pd8 rfl) rfl (Nat.le_of_eq rfl) (hb hby at_176) rfl (cN := 25) rfl (by decide) (sN := 128) rfl (by decide)
  obtain ⟨xa_303, xb_303, rfl, Nq303, P303_0, P303_1, P303_2, P303_3, P303_4, P303_5, P303_6, P303_7, P303_8, P303_9, P303_10, P303_11, P303_12, P303_13, P303_14, P303_15, P303_16, P303_17, P303_18, P303_19, P303_20, P303_21, P303_22, P303_23, P303_24⟩ := hQ303
  have N303 := Fr.app N262 Nq303
  have g_xa_303 : n0 ≤ xa_303 := Nat.le_trans ZZ263 P303_1
  have g_xb_303 : n0 ≤ xb_303 := Nat.le_trans ZZ263 P303_2
  have ZZ304 : n0 ≤ T303.heap.size := Nat.le_trans ZZ263 P303_0.1
  have Vr305 : Arv Z T303.heap co_119 kco_119 .double (16 : Int32) [(.double (FP.i2d p2)), (.double (FP.i2d p0)), (.double (FP.i2d p1))] (.double 0) := P303_3
  have Vr306 : Arv Z T303.heap fr_119 kfr_119 .boolean (16 : Int32) [(.int 0), (.int 0), (.int 0)] (.int 0) := P303_4
  have Vr307 : Arv Z T303.heap er_119 ker_119 (.array .int) (16 : Int32) [(.ref xa_180), (.ref xa_237), (.ref xa_303)] .null := P303_5
  have Vr308 : Arv Z T303.heap ev_119 kev_119 (.array .double) (16 : Int32) [(.ref xb_180), (.ref xb_237), (.ref xb_303)] .null := P303_6
  have Vr309 : Arv Z T303.heap pl_119 kpl_119 .int (16 : Int32) [(.int (-1)), (.int (-1)), (.int (-1))] (.int 0) := P303_7
  have pre310 : ∀ t, Steps p.tables e below (T303.setTop (mkF m 182 #[oI p0, oI p1, oI p2, oI p3, oI pp, oI qq, oD d0, oV, oD d1, oV, oD ee_103, oV, oR b105, oR b115, oU, oU, oU, oU] [(.int qq)])) t → Steps p.tables e below (s₁.setTop (mkF m 0 #[oI p0, oI p1, oI p2, oI p3, oU, oU, oU, oU, oU, oU, oU, oU, oU, oU, oU, oU, oU, oU] [])) t := by
    intro t kt
    show own_S p e below s₁ m 0 #[oI p0, oI p1, oI p2, oI p3, oU, oU, oU, oU, oU, oU, oU, oU, oU, oU, oU, oU, oU, oU] [] _
    refine XS.iloadN X0.here hx rfl (hb hby at_0) rfl ?_
    refine XS.iconst X0.here hx rfl (hb hby at_1) ?_
    show own_S p e below s₁ m 2 _ [(.int 1), (.int p3)] _
    refine XS.iand X0.here hx rfl (hb hby at_2) rfl ?_
    show own_S p e below s₁ m 3 _ [(.int (p3 &&& (1 : Int32)))] _
    refine reI (hpp.symm : (p3 &&& (1 : Int32)) = pp) ?_
    show own_S p e below s₁ m 3 _ [(.int pp)] _
    refine XS.istore X0.here hx rfl (hb hby at_3) rfl (l' := #[oI p0, oI p1, oI p2, oI p3, oI pp, oU, oU, oU, oU, oU, oU, oU, oU, oU, oU, oU, oU, oU]) rfl ?_
    refine XS.iloadN X0.here hx rfl (hb hby at_5) rfl ?_
    refine XS.iconst X0.here hx rfl (hb hby at_6) ?_
    show own_S p e below s₁ m 7 _ [(.int 1), (.int p3)] _
    refine XS.ishr X0.here hx rfl (hb hby at_7) rfl ?_
    show own_S p e below s₁ m 8 _ [(.int (p3 >>> ((1 : Int32) &&& 31)))] _
    refine XS.iconst X0.here hx rfl (hb hby at_8) ?_
    show own_S p e below s₁ m 9 _ [(.int 1), (.int (p3 >>> ((1 : Int32) &&& 31)))] _
    refine XS.iand X0.here hx rfl (hb hby at_9) rfl ?_
    show own_S p e below s₁ m 10 _ [(.int ((p3 >>> ((1 : Int32) &&& 31)) &&& (1 : Int32)))] _
    refine reI (hqq.symm : ((p3 >>> ((1 : Int32) &&& 31)) &&& (1 : Int32)) = qq) ?_
    show own_S p e below s₁ m 10 _ [(.int qq)] _
    refine XS.istore X0.here hx rfl (hb hby at_10) rfl (l' := #[oI p0, oI p1, oI p2, oI p3, oI pp, oI qq, oU, oU, oU, oU, oU, oU, oU, oU, oU, oU, oU, oU]) rfl ?_
    refine XS.iloadN X0.here hx rfl (hb hby at_12) rfl ?_
    refine XS.iconst X0.here hx rfl (hb hby at_13) ?_
    show own_S p e below s₁ m 14 _ [(.int 2), (.int p3)] _
    refine XS.ishr X0.here hx rfl (hb hby at_14) rfl ?_
    show own_S p e below s₁ m 15 _ [(.int (p3 >>> ((2 : Int32) &&& 31)))] _
    refine st101.trans ?_
    show own_S p e below T101 m 18 _ [(.double (own_p2 (p3 >>> ((2 : Int32) &&& 31))))] _
    refine reD (hd0.symm : (own_p2 (p3 >>> ((2 : Int32) &&& 31))) = d0) ?_
    show own_S p e below T101 m 18 _ [(.double d0)] _
    refine XS.dstore X101.here hx rfl (hb hby at_18) rfl (l' := #[oI p0, oI p1, oI p2, oI p3, oI pp, oI qq, oD d0, oV, oU, oU, oU, oU, oU, oU, oU, oU, oU, oU]) rfl ?_
    refine XS.iloadN X101.here hx rfl (hb hby at_20) rfl ?_
    refine XS.iconst X101.here hx rfl (hb hby at_21) ?_
    show own_S p e below T101 m 22 _ [(.int 5), (.int p3)] _
    refine XS.ishr X101.here hx rfl (hb hby at_22) rfl ?_
    show own_S p e below T101 m 23 _ [(.int (p3 >>> ((5 : Int32) &&& 31)))] _
    refine st102.trans ?_
    show own_S p e below T102 m 26 _ [(.double (own_p2 (p3 >>> ((5 : Int32) &&& 31))))] _
    refine reD (hd1.symm : (own_p2 (p3 >>> ((5 : Int32) &&& 31))) = d1) ?_
    show own_S p e below T102 m 26 _ [(.double d1)] _
    refine XS.dstore X102.here hx rfl (hb hby at_26) rfl (l' := #[oI p0, oI p1, oI p2, oI p3, oI pp, oI qq, oD d0, oV, oD d1, oV, oU, oU, oU, oU, oU, oU, oU, oU]) rfl ?_
    show own_S p e below T102 m 28 #[oI p0, oI p1, oI p2, oI p3, oI pp, oI qq, oD d0, oV, oD d1, oV, oU, oU, oU, oU, oU, oU, oU, oU] [] _
    refine st103 _ ?_
    show own_S p e below T103 m 50 #[oI p0, oI p1, oI p2, oI p3, oI pp, oI qq, oD d0, oV, oD d1, oV, oD ee_103, oV, oU, oU, oU, oU, oU, oU] [] _
    refine XS.iconst X103.here hx rfl (hb hby at_50) ?_
    show own_S p e below T103 m 51 _ [(.int 2)] _
    refine st105 _ ?_
    show own_S p e below T105 m 53 _ [(.ref b105)] _
    refine XS.astore X105.here hx rfl (hb hby at_53) rfl rfl (l' := #[oI p0, oI p1, oI p2, oI p3, oI pp, oI qq, oD d0, oV, oD d1, oV, oD ee_103, oV, oR b105, oU, oU, oU, oU, oU]) rfl ?_
    refine XS.aload X105.here hx rfl (hb hby at_55) rfl rfl ?_
    refine XS.iload X105.here hx rfl (hb hby at_57) rfl ?_
    refine XS.dload X105.here hx rfl (hb hby at_59) rfl ?_
    show own_S p e below T105 m 61 _ [(.double d0), (.int pp), (.ref b105)] _
    refine XS.dload X105.here hx rfl (hb hby at_61) rfl ?_
    show own_S p e below T105 m 63 _ [(.double ee_103), (.double d0), (.int pp), (.ref b105)] _
    refine XS.daddS X105.here hx rfl (v := (FP.dadd d0 ee_103)) (hb hby at_63) rfl (own_gnn d8 he9) rfl ?_
    show own_S p e below T105 m 64 _ [(.double (FP.dadd d0 ee_103)), (.int pp), (.ref b105)] _
    refine reD (hgg.symm : (FP.dadd d0 ee_103) = gg) ?_
    show own_S p e below T105 m 64 _ [(.double gg), (.int pp), (.ref b105)] _
    refine st109 _ ?_
    show own_S p e below T109 m 65 #[oI p0, oI p1, oI p2, oI p3, oI pp, oI qq, oD d0, oV, oD d1, oV, oD ee_103, oV, oR b105, oU, oU, oU, oU, oU] [] _
    refine XS.aload X109.here hx rfl (hb hby at_65) rfl rfl ?_
    refine XS.iconst X109.here hx rfl (hb hby at_67) ?_
    refine XS.iload X109.here hx rfl (hb hby at_68) rfl ?_
    show own_S p e below T109 m 70 _ [(.int pp), (.int 1), (.ref b105)] _
    refine XS.isub X109.here hx rfl (hb hby at_70) rfl ?_
    show own_S p e below T109 m 71 _ [(.int ((1 : Int32) - pp)), (.ref b105)] _
    refine reI (hpq.symm : ((1 : Int32) - pp) = pq) ?_
    show own_S p e below T109 m 71 _ [(.int pq), (.ref b105)] _
    refine XS.dload X109.here hx rfl (hb hby at_71) rfl ?_
    show own_S p e below T109 m 73 _ [(.double d1), (.int pq), (.ref b105)] _
    refine st113 _ ?_
    show own_S p e below T113 m 74 #[oI p0, oI p1, oI p2, oI p3, oI pp, oI qq, oD d0, oV, oD d1, oV, oD ee_103, oV, oR b105, oU, oU, oU, oU, oU] [] _
    refine st115 _ ?_
    show own_S p e below T115 m 77 _ [(.ref b115)] _
    refine XS.dup X115.here hx rfl (hb hby at_77) rfl rfl ?_
    refine XS.aload X115.here hx rfl (hb hby at_78) rfl rfl ?_
    show own_S p e below T115 m 80 _ [(.ref b105), (.ref b115), (.ref b115)] _
    refine st119.trans ?_
    show own_S p e below T119 m 83 _ [(.ref b115)] _
    refine XS.astore X119.here hx rfl (hb hby at_83) rfl rfl (l' := #[oI p0, oI p1, oI p2, oI p3, oI pp, oI qq, oD d0, oV, oD d1, oV, oD ee_103, oV, oR b105, oR b115, oU, oU, oU, oU]) rfl ?_
    refine XS.aload X119.here hx rfl (hb hby at_85) rfl rfl ?_
    refine XS.iloadN X119.here hx rfl (hb hby at_87) rfl ?_
    show own_S p e below T119 m 88 _ [(.int p2), (.ref b115)] _
    refine XS.i2dS X119.here hx rfl (v := (FP.i2d p2)) (hb hby at_88) rfl rfl ?_
    show own_S p e below T119 m 89 _ [(.double (FP.i2d p2)), (.ref b115)] _
    refine XS.iconst X119.here hx rfl (hb hby at_89) ?_
    show own_S p e below T119 m 90 _ [(.int 2), (.double (FP.i2d p2)), (.ref b115)] _
    refine st121 _ ?_
    show own_S p e below T121 m 92 _ [(.ref b121), (.double (FP.i2d p2)), (.ref b115)] _
    refine XS.dup X121.here hx rfl (hb hby at_92) rfl rfl ?_
    refine XS.iconst X121.here hx rfl (hb hby at_93) ?_
    refine XS.iconst X121.here hx rfl (hb hby at_94) ?_
    show own_S p e below T121 m 95 _ [(.int 0), (.int 0), (.ref b121), (.ref b121), (.double (FP.i2d p2)), (.ref b115)] _
    refine st125 _ ?_
    show own_S p e below T125 m 96 _ [(.ref b121), (.double (FP.i2d p2)), (.ref b115)] _
    refine XS.dup X125.here hx rfl (hb hby at_96) rfl rfl ?_
    refine XS.iconst X125.here hx rfl (hb hby at_97) ?_
    refine XS.iconst X125.here hx rfl (hb hby at_98) ?_
    show own_S p e below T125 m 99 _ [(.int 1), (.int 1), (.ref b121), (.ref b121), (.double (FP.i2d p2)), (.ref b115)] _
    refine st129 _ ?_
    show own_S p e below T129 m 100 _ [(.ref b121), (.double (FP.i2d p2)), (.ref b115)] _
    refine XS.iconst X129.here hx rfl (hb hby at_100) ?_
    show own_S p e below T129 m 101 #[oI p0, oI p1, oI p2, oI p3, oI pp, oI qq, oD d0, oV, oD d1, oV, oD ee_103, oV, oR b105, oR b115, oU, oU, oU, oU] [(.int 2), (.ref b121), (.double (FP.i2d p2)), (.ref b115)] _
    refine st131 _ ?_
    show own_S p e below T131 m 103 _ [(.ref b131), (.ref b121), (.double (FP.i2d p2)), (.ref b115)] _
    refine XS.dup X131.here hx rfl (hb hby at_103) rfl rfl ?_
    refine XS.iconst X131.here hx rfl (hb hby at_104) ?_
    refine XS.dconst1 X131.here hx rfl (v := 4607182418800017408) (hb hby at_105) rfl ?_
    show own_S p e below T131 m 106 _ [(.double 4607182418800017408), (.int 0), (.ref b131), (.ref b131), (.ref b121), (.double (FP.i2d p2)), (.ref b115)] _
    refine st135 _ ?_
    show own_S p e below T135 m 107 _ [(.ref b131), (.ref b121), (.double (FP.i2d p2)), (.ref b115)] _
    refine XS.dup X135.here hx rfl (hb hby at_107) rfl rfl ?_
    refine XS.iconst X135.here hx rfl (hb hby at_108) ?_
    show own_S p e below T135 m 109 #[oI p0, oI p1, oI p2, oI p3, oI pp, oI qq, oD d0, oV, oD d1, oV, oD ee_103, oV, oR b105, oR b115, oU, oU, oU, oU] [(.int 1), (.ref b131), (.ref b131), (.ref b121), (.double (FP.i2d p2)), (.ref b115)] _
    refine X135.ldc2DoubleC hx hown (mvT hZ (own_w hw 49 rfl)) (g := (mkF m 109 #[oI p0, oI p1, oI p2, oI p3, oI pp, oI qq, oD d0, oV, oD d1, oV, oD ee_103, oV, oR b105, oR b115, oU, oU, oU, oU] [(.int 1), (.ref b131), (.ref b131), (.ref b121), (.double (FP.i2d p2)), (.ref b115)])) rfl (hb hby at_109) _ ?_
    show own_S p e below T135 m 112 _ [(.double 13830554455654793216), (.int 1), (.ref b131), (.ref b131), (.ref b121), (.double (FP.i2d p2)), (.ref b115)] _
    refine st139 _ ?_
    show own_S p e below T139 m 113 _ [(.ref b131), (.ref b121), (.double (FP.i2d p2)), (.ref b115)] _
    refine XS.iconst X139.here hx rfl (hb hby at_113) ?_
    show own_S p e below T139 m 114 _ [(.int 0), (.ref b131), (.ref b121), (.double (FP.i2d p2)), (.ref b115)] _
    refine st180.trans ?_
    show own_S p e below T180 m 117 _ [(.int 0)] _
    refine XS.pop X180.here hx rfl (hb hby at_117) rfl rfl ?_
    show own_S p e below T180 m 118 _ [] _
    refine XS.aload X180.here hx rfl (hb hby at_118) rfl rfl ?_
    refine XS.iloadN X180.here hx rfl (hb hby at_120) rfl ?_
    show own_S p e below T180 m 121 #[oI p0, oI p1, oI p2, oI p3, oI pp, oI qq, oD d0, oV, oD d1, oV, oD ee_103, oV, oR b105, oR b115, oU, oU, oU, oU] [(.int p0), (.ref b115)] _
    refine XS.i2dS X180.here hx rfl (v := (FP.i2d p0)) (hb hby at_121) rfl rfl ?_
    show own_S p e below T180 m 122 _ [(.double (FP.i2d p0)), (.ref b115)] _
    refine XS.iconst X180.here hx rfl (hb hby at_122) ?_
    show own_S p e below T180 m 123 _ [(.int 1), (.double (FP.i2d p0)), (.ref b115)] _
    refine st187 _ ?_
    show own_S p e below T187 m 125 _ [(.ref b187), (.double (FP.i2d p0)), (.ref b115)] _
    refine XS.dup X187.here hx rfl (hb hby at_125) rfl rfl ?_
    refine XS.iconst X187.here hx rfl (hb hby at_126) ?_
    refine XS.iload X187.here hx rfl (hb hby at_127) rfl ?_
    show own_S p e below T187 m 129 _ [(.int pp), (.int 0), (.ref b187), (.ref b187), (.double (FP.i2d p0)), (.ref b115)] _
    refine st191 _ ?_
    show own_S p e below T191 m 130 #[oI p0, oI p1, oI p2, oI p3, oI pp, oI qq, oD d0, oV, oD d1, oV, oD ee_103, oV, oR b105, oR b115, oU, oU, oU, oU] [(.ref b187), (.double (FP.i2d p0)), (.ref b115)] _
    refine XS.iconst X191.here hx rfl (hb hby at_130) ?_
    show own_S p e below T191 m 131 _ [(.int 1), (.ref b187), (.double (FP.i2d p0)), (.ref b115)] _
    refine st193 _ ?_
    show own_S p e below T193 m 133 _ [(.ref b193), (.ref b187), (.double (FP.i2d p0)), (.ref b115)] _
    refine XS.dup X193.here hx rfl (hb hby at_133) rfl rfl ?_
    refine XS.iconst X193.here hx rfl (hb hby at_134) ?_
    refine XS.dload X193.here hx rfl (hb hby at_135) rfl ?_
    show own_S p e below T193 m 137 _ [(.double d0), (.int 0), (.ref b193), (.ref b193), (.ref b187), (.double (FP.i2d p0)), (.ref b115)] _
    refine st197 _ ?_
    show own_S p e below T197 m 138 _ [(.ref b193), (.ref b187), (.double (FP.i2d p0)), (.ref b115)] _
    refine XS.iconst X197.here hx rfl (hb hby at_138) ?_
    show own_S p e below T197 m 139 #[oI p0, oI p1, oI p2, oI p3, oI pp, oI qq, oD d0, oV, oD d1, oV, oD ee_103, oV, oR b105, oR b115, oU, oU, oU, oU] [(.int 0), (.ref b193), (.ref b187), (.double (FP.i2d p0)), (.ref b115)] _
    refine st237.trans ?_
    show own_S p e below T237 m 142 _ [(.int ((0 : Int32) + (1 : Int32)))] _
    refine XS.pop X237.here hx rfl (hb hby at_142) rfl rfl ?_
    show own_S p e below T237 m 143 _ [] _
    refine XS.aload X237.here hx rfl (hb hby at_143) rfl rfl ?_
    refine XS.iloadN X237.here hx rfl (hb hby at_145) rfl ?_
    show own_S p e below T237 m 146 _ [(.int p1), (.ref b115)] _
    refine XS.i2dS X237.here hx rfl (v := (FP.i2d p1)) (hb hby at_146) rfl rfl ?_
    show own_S p e below T237 m 147 _ [(.double (FP.i2d p1)), (.ref b115)] _
    refine XS.iconst X237.here hx rfl (hb hby at_147) ?_
    show own_S p e below T237 m 148 _ [(.int 2), (.double (FP.i2d p1)), (.ref b115)] _
    refine st244 _ ?_
    show own_S p e below T244 m 150 #[oI p0, oI p1, oI p2, oI p3, oI pp, oI qq, oD d0, oV, oD d1, oV, oD ee_103, oV, oR b105, oR b115, oU, oU, oU, oU] [(.ref b244), (.double (FP.i2d p1)), (.ref b115)] _
    refine XS.dup X244.here hx rfl (hb hby at_150) rfl rfl ?_
    refine XS.iconst X244.here hx rfl (hb hby at_151) ?_
    refine XS.iload X244.here hx rfl (hb hby at_152) rfl ?_
    show own_S p e below T244 m 154 _ [(.int pp), (.int 0), (.ref b244), (.ref b244), (.double (FP.i2d p1)), (.ref b115)] _
    refine st248 _ ?_
    show own_S p e below T248 m 155 _ [(.ref b244), (.double (FP.i2d p1)), (.ref b115)] _
    refine XS.dup X248.here hx rfl (hb hby at_155) rfl rfl ?_
    refine XS.iconst X248.here hx rfl (hb hby at_156) ?_
    refine XS.iconst X248.here hx rfl (hb hby at_157) ?_
    refine XS.iload X248.here hx rfl (hb hby at_158) rfl ?_
    show own_S p e below T248 m 160 _ [(.int pp), (.int 1), (.int 1), (.ref b244), (.ref b244), (.double (FP.i2d p1)), (.ref b115)] _
    refine XS.isub X248.here hx rfl (hb hby at_160) rfl ?_
    show own_S p e below T248 m 161 _ [(.int ((1 : Int32) - pp)), (.int 1), (.ref b244), (.ref b244), (.double (FP.i2d p1)), (.ref b115)] _
    refine reI (hpq.symm : ((1 : Int32) - pp) = pq) ?_
    show own_S p e below T248 m 161 _ [(.int pq), (.int 1), (.ref b244), (.ref b244), (.double (FP.i2d p1)), (.ref b115)] _
    refine st252 _ ?_
    show own_S p e below T252 m 162 _ [(.ref b244), (.double (FP.i2d p1)), (.ref b115)] _
    refine XS.iconst X252.here hx rfl (hb hby at_162) ?_
    show own_S p e below T252 m 163 _ [(.int 2), (.ref b244), (.double (FP.i2d p1)), (.ref b115)] _
    refine st254 _ ?_
    show own_S p e below T254 m 165 _ [(.ref b254), (.ref b244), (.double (FP.i2d p1)), (.ref b115)] _
    refine XS.dup X254.here hx rfl (hb hby at_165) rfl rfl ?_
    refine XS.iconst X254.here hx rfl (hb hby at_166) ?_
    refine XS.dload X254.here hx rfl (hb hby at_167) rfl ?_
    show own_S p e below T254 m 169 _ [(.double ee_103), (.int 0), (.ref b254), (.ref b254), (.ref b244), (.double (FP.i2d p1)), (.ref b115)] _
    refine st258 _ ?_
    show own_S p e below T258 m 170 _ [(.ref b254), (.ref b244), (.double (FP.i2d p1)), (.ref b115)] _
    refine XS.dup X258.here hx rfl (hb hby at_170) rfl rfl ?_
    refine XS.iconst X258.here hx rfl (hb hby at_171) ?_
    refine XS.dload X258.here hx rfl (hb hby at_172) rfl ?_
    show own_S p e below T258 m 174 _ [(.double d1), (.int 1), (.ref b254), (.ref b254), (.ref b244), (.double (FP.i2d p1)), (.ref b115)] _
    refine st262 _ ?_
    show own_S p e below T262 m 175 #[oI p0, oI p1, oI p2, oI p3, oI pp, oI qq, oD d0, oV, oD d1, oV, oD ee_103, oV, oR b105, oR b115, oU, oU, oU, oU] [(.ref b254), (.ref b244), (.double (FP.i2d p1)), (.ref b115)] _
    refine XS.iconst X262.here hx rfl (hb hby at_175) ?_
    show own_S p e below T262 m 176 _ [(.int 0), (.ref b254), (.ref b244), (.double (FP.i2d p1)), (.ref b115)] _
    refine st303.trans ?_
    show own_S p e below T303 m 179 _ [(.int (((0 : Int32) + (1 : Int32)) + (1 : Int32)))] _
    refine XS.pop X303.here hx rfl (hb hby at_179) rfl rfl ?_
    show own_S p e below T303 m 180 _ [] _
    refine XS.iload X303.here hx rfl (hb hby at_180) rfl ?_
    exact kt
  by_cases hq : qq = (0 : Int32)
  · skip
    obtain ⟨T311, h311, k311, X311, e311, E311, A311, Ea311, st311⟩ := newPE X303 hx hZ (own_w hw 27 rfl) rfl (g := (mkF m 188 #[oI p0, oI p1, oI p2, oI p3, oI pp, oI qq, oD d0, oV, oD d1, oV, oD ee_103, oV, oR b105, oR b115, oU, oU, oU, oU] [(.int 2), (.ref b115)])) rfl (hb hby at_188) rfl (by decide) (cap := 2) (by decide) (by decide) (by decide) (by decide) (ad := "[I") (by decide)
    obtain ⟨b311, g311⟩ : ∃ z, z = T303.heap.size := ⟨_, rfl⟩
    rw [← g311] at A311 Ea311 st311
    have g_b311 : n0 ≤ b311 := Nat.le_trans ZZ304 (Nat.le_of_eq g311.symm)
    have ZZ312 : n0 ≤ h311.size := Nat.le_trans ZZ304 E311.1
    have V_b311 : Arv Z h311 b311 k311 .int (2 : Int32) [(.int 0), (.int 0)] (.int 0) := (Arv.new A311 (by decide)).pad (pad_rep [] (.int 0) 2)
    obtain ⟨cl313, Ar313, qk313, Sz313, Nz313, Hh313, Gg313⟩ := id V_b311
    have hin314 : ¬ ((0 : Int32) < 0 ∨ cl313.slots.size ≤ ((0 : Int32)).toNatClampNeg) := inb_of Sz313 ⟨by decide, by decide⟩
    obtain ⟨T315, h315, X315, e315, W315, st315⟩ := stI X311 hx hZ e311 Ar313 (j := (0 : Int32)) hin314 (g := (mkF m 193 #[oI p0, oI p1, oI p2, oI p3, oI pp, oI qq, oD d0, oV, oD d1, oV, oD ee_103, oV, oR b105, oR b115, oU, oU, oU, oU] [(.int 1), (.int 0), (.ref b311), (.ref b311), (.ref b115)])) rfl rfl (hb hby at_193)
    have Va315 := Arv.set Ar313 qk313 Sz313 Nz313 Hh313 Gg313 rfl W315 0 rfl (Nat.le_of_ble_eq_true rfl)
    have N315 := Fr.snoc X315 N303 g_b311
    have ZZ316 : n0 ≤ h315.size := Nat.le_trans ZZ312 (Nat.le_of_eq W315.size.symm)
    obtain ⟨cl317, Ar317, qk317, Sz317, Nz317, Hh317, Gg317⟩ := id Va315
    have hin318 : ¬ ((1 : Int32) < 0 ∨ cl317.slots.size ≤ ((1 : Int32)).toNatClampNeg) := inb_of Sz317 ⟨by decide, by decide⟩
    obtain ⟨T319, h319, X319, e319, W319, st319⟩ := stI X315 hx hZ e315 Ar317 (j := (1 : Int32)) hin318 (g := (mkF m 197 #[oI p0, oI p1, oI p2, oI p3, oI pp, oI qq, oD d0, oV, oD d1, oV, oD ee_103, oV, oR b105, oR b115, oU, oU, oU, oU] [(.int 2), (.int 1), (.ref b311), (.ref b311), (.ref b115)])) rfl rfl (hb hby at_197)
    have Va319 := Arv.set Ar317 qk317 Sz317 Nz317 Hh317 Gg317 rfl W319 1 rfl (Nat.le_of_ble_eq_true rfl)
    have N319 := Fr.snoc X319 N315 g_b311
    have ZZ320 : n0 ≤ h319.size := Nat.le_trans ZZ316 (Nat.le_of_eq W319.size.symm)
    obtain ⟨iA, iB, iC, iD, hH, hDA, hDB, hDC, hDD⟩ := own_main0 hp d8 d8' he9 hgg
    have nq321 : b115 ≠ b311 := (Nat.ne_of_lt (Nat.lt_of_lt_of_le P303_24.lt (Nat.le_of_eq g311.symm)))
    have Fc322 := (((P303_12.ext E311).other W315 (Or.inl nq321)).other W319 (Or.inl nq321))
    have Fc323 := (((P303_13.ext E311).other W315 (Or.inl nq321)).other W319 (Or.inl nq321))
    have Fc324 := (((P303_14.ext E311).other W315 (Or.inl nq321)).other W319 (Or.inl nq321))
    have Fc325 := (((P303_15.ext E311).other W315 (Or.inl nq321)).other W319 (Or.inl nq321))
    have Fc326 := (((P303_16.ext E311).other W315 (Or.inl nq321)).other W319 (Or.inl nq321))
    have Fc327 := (((P303_17.ext E311).other W315 (Or.inl nq321)).other W319 (Or.inl nq321))
    have Fc328 := (((P303_18.ext E311).other W315 (Or.inl nq321)).other W319 (Or.inl nq321))
    have Fc329 := (((P303_19.ext E311).other W315 (Or.inl nq321)).other W319 (Or.inl nq321))
    have Fc330 := (((P303_20.ext E311).other W315 (Or.inl nq321)).other W319 (Or.inl nq321))
    have Fc331 := (((P303_21.ext E311).other W315 (Or.inl nq321)).other W319 (Or.inl nq321))
    have Fc332 := (((P303_22.ext E311).other W315 (Or.inl nq321)).other W319 (Or.inl nq321))
    have Fc333 := (((P303_23.ext E311).other W315 (Or.inl nq321)).other W319 (Or.inl nq321))
    have nq334 : er_119 ≠ b311 := (Nat.ne_of_lt (Nat.lt_of_lt_of_le Vr307.lt (Nat.le_of_eq g311.symm)))
    have Fc335 := (((Vr307.ext E311).other W315 nq334).other W319 nq334)
    have nq336 : ev_119 ≠ b311 := (Nat.ne_of_lt (Nat.lt_of_lt_of_le Vr308.lt (Nat.le_of_eq g311.symm)))
    have Fc337 := (((Vr308.ext E311).other W315 nq336).other W319 nq336)
    have nq338 : rh_119 ≠ b121 := (Nat.ne_of_lt (Nat.lt_of_lt_of_le P119_28.lt (Nat.le_of_eq g121.symm)))
    have nq339 : rh_119 ≠ b131 := (Nat.ne_of_lt (Nat.lt_of_lt_of_le (((P119_28.ext E121).wr W125).wr W129).lt (Nat.le_of_eq g131.symm)))
    have nq340 : b115 ≠ rh_119 := (Nat.ne_of_lt (Nat.lt_of_lt_of_le A115.lt P119_6))
    have Fc341 := ((((((((((((((((((((((P119_28.ext E121).wr W125).wr W129).ext E131).wr W135).wr W139).keep P180_0).ext E187).wr W191).ext E193).wr W197).keep P237_0).ext E244).wr W248).wr W252).ext E254).wr W258).wr W262).keep P303_0).ext E311).wr W315).wr W319)
    have Fc342 := ((((Fc297.keep P303_0).ext E311).wr W315).wr W319)
    have nq343 : rh_119 ≠ fr_119 := (ne_exa Fc341 Fc342 (by decide))
    have Fc344 := ((((Fc298.keep P303_0).ext E311).wr W315).wr W319)
    have nq345 : rh_119 ≠ er_119 := (ne_exa Fc341 Fc344 (by decide))
    have Fc346 := ((((Fc299.keep P303_0).ext E311).wr W315).wr W319)
    have nq347 : rh_119 ≠ ev_119 := (ne_exa Fc341 Fc346 (by decide))
    have Fc348 := ((((Fc300.keep P303_0).ext E311).wr W315).wr W319)
    have nq349 : rh_119 ≠ pl_119 := (ne_exa Fc341 Fc348 (by decide))
    have nq350 : rh_119 ≠ b187 := (Nat.ne_of_lt (Nat.lt_of_lt_of_le (((((((P119_28.ext E121).wr W125).wr W129).ext E131).wr W135).wr W139).keep P180_0).lt (Nat.le_of_eq g187.symm)))
    have nq351 : rh_119 ≠ b193 := (Nat.ne_of_lt (Nat.lt_of_lt_of_le (((((((((P119_28.ext E121).wr W125).wr W129).ext E131).wr W135).wr W139).keep P180_0).ext E187).wr W191).lt (Nat.le_of_eq g193.symm)))
    have nq352 : rh_119 ≠ b244 := (Nat.ne_of_lt (Nat.lt_of_lt_of_le ((((((((((((P119_28.ext E121).wr W125).wr W129).ext E131).wr W135).wr W139).keep P180_0).ext E187).wr W191).ext E193).wr W197).keep P237_0).lt (Nat.le_of_eq g244.symm)))
    have nq353 : rh_119 ≠ b254 := (Nat.ne_of_lt (Nat.lt_of_lt_of_le (((((((((((((((P119_28.ext E121).wr W125).wr W129).ext E131).wr W135).wr W139).keep P180_0).ext E187).wr W191).ext E193).wr W197).keep P237_0).ext E244).wr W248).wr W252).lt (Nat.le_of_eq g254.symm)))
    have nq354 : rh_119 ≠ b311 := (Nat.ne_of_lt (Nat.lt_of_lt_of_le (((((((((((((((((((P119_28.ext E121).wr W125).wr W129).ext E131).wr W135).wr W139).keep P180_0).ext E187).wr W191).ext E193).wr W197).keep P237_0).ext E244).wr W248).wr W252).ext E254).wr W258).wr W262).keep P303_0).lt (Nat.le_of_eq g311.symm)))
    have Fc355 := ((((((((((((((((((((((P119_17.ext E121).other W125 nq338).other W129 nq338).ext E131).other W135 nq339).other W139 nq339).keep P180_0 (ninS (Ne.symm nq340) (ninS P119_59 (ninS nq343 (ninS nq345 (ninS nq347 (ninS nq349 nin0))))))).ext E187).other W191 nq350).ext E193).other W197 nq351).keep P237_0 (ninS (Ne.symm nq340) (ninS P119_59 (ninS nq343 (ninS nq345 (ninS nq347 (ninS nq349 nin0))))))).ext E244).other W248 nq352).other W252 nq352).ext E254).other W258 nq353).other W262 nq353).keep P303_0 (ninS (Ne.symm nq340) (ninS P119_59 (ninS nq343 (ninS nq345 (ninS nq347 (ninS nq349 nin0))))))).ext E311).other W315 nq354).other W319 nq354)
    have nq356 : ri_119 ≠ b121 := (Nat.ne_of_lt (Nat.lt_of_lt_of_le P119_30.lt (Nat.le_of_eq g121.symm)))
    have nq357 : ri_119 ≠ b131 := (Nat.ne_of_lt (Nat.lt_of_lt_of_le (((P119_30.ext E121).wr W125).wr W129).lt (Nat.le_of_eq g131.symm)))
    have nq358 : b115 ≠ ri_119 := (Nat.ne_of_lt (Nat.lt_of_lt_of_le A115.lt P119_8))
    have Fc359 := ((((((((((((((((((((((P119_30.ext E121).wr W125).wr W129).ext E131).wr W135).wr W139).keep P180_0).ext E187).wr W191).ext E193).wr W197).keep P237_0).ext E244).wr W248).wr W252).ext E254).wr W258).wr W262).keep P303_0).ext E311).wr W315).wr W319)
    have Fc360 := ((((Fc296.keep P303_0).ext E311).wr W315).wr W319)
    have nq361 : ri_119 ≠ co_119 := (ne_exa Fc359 Fc360 (by decide))
    have nq362 : ri_119 ≠ fr_119 := (ne_exa Fc359 Fc342 (by decide))
    have nq363 : ri_119 ≠ er_119 := (ne_exa Fc359 Fc344 (by decide))
    have nq364 : ri_119 ≠ pl_119 := (ne_exa Fc359 Fc348 (by decide))
    have nq365 : ri_119 ≠ b187 := (Nat.ne_of_lt (Nat.lt_of_lt_of_le (((((((P119_30.ext E121).wr W125).wr W129).ext E131).wr W135).wr W139).keep P180_0).lt (Nat.le_of_eq g187.symm)))
    have nq366 : ri_119 ≠ b193 := (Nat.ne_of_lt (Nat.lt_of_lt_of_le (((((((((P119_30.ext E121).wr W125).wr W129).ext E131).wr W135).wr W139).keep P180_0).ext E187).wr W191).lt (Nat.le_of_eq g193.symm)))
    have nq367 : ri_119 ≠ b244 := (Nat.ne_of_lt (Nat.lt_of_lt_of_le ((((((((((((P119_30.ext E121).wr W125).wr W129).ext E131).wr W135).wr W139).keep P180_0).ext E187).wr W191).ext E193).wr W197).keep P237_0).lt (Nat.le_of_eq g244.symm)))
    have nq368 : ri_119 ≠ b254 := (Nat.ne_of_lt (Nat.lt_of_lt_of_le (((((((((((((((P119_30.ext E121).wr W125).wr W129).ext E131).wr W135).wr W139).keep P180_0).ext E187).wr W191).ext E193).wr W197).keep P237_0).ext E244).wr W248).wr W252).lt (Nat.le_of_eq g254.symm)))
    have nq369 : ri_119 ≠ b311 := (Nat.ne_of_lt (Nat.lt_of_lt_of_le (((((((((((((((((((P119_30.ext E121).wr W125).wr W129).ext E131).wr W135).wr W139).keep P180_0).ext E187).wr W191).ext E193).wr W197).keep P237_0).ext E244).wr W248).wr W252).ext E254).wr W258).wr W262).keep P303_0).lt (Nat.le_of_eq g311.symm)))
    have Fc370 := ((((((((((((((((((((((P119_19.ext E121).other W125 nq356).other W129 nq356).ext E131).other W135 nq357).other W139 nq357).keep P180_0 (ninS (Ne.symm nq358) (ninS nq361 (ninS nq362 (ninS nq363 (ninS P119_61 (ninS nq364 nin0))))))).ext E187).other W191 nq365).ext E193).other W197 nq366).keep P237_0 (ninS (Ne.symm nq358) (ninS nq361 (ninS nq362 (ninS nq363 (ninS P119_61 (ninS nq364 nin0))))))).ext E244).other W248 nq367).other W252 nq367).ext E254).other W258 nq368).other W262 nq368).keep P303_0 (ninS (Ne.symm nq358) (ninS nq361 (ninS nq362 (ninS nq363 (ninS P119_61 (ninS nq364 nin0))))))).ext E311).other W315 nq369).other W319 nq369)
    have nq371 : i0_119 ≠ b121 := (Nat.ne_of_lt (Nat.lt_of_lt_of_le P119_32.lt (Nat.le_of_eq g121.symm)))
    have nq372 : i0_119 ≠ b131 := (Nat.ne_of_lt (Nat.lt_of_lt_of_le (((P119_32.ext E121).wr W125).wr W129).lt (Nat.le_of_eq g131.symm)))
    have nq373 : b115 ≠ i0_119 := (Nat.ne_of_lt (Nat.lt_of_lt_of_le A115.lt P119_10))
    have Fc374 := ((((((((((((((((((((((P119_32.ext E121).wr W125).wr W129).ext E131).wr W135).wr W139).keep P180_0).ext E187).wr W191).ext E193).wr W197).keep P237_0).ext E244).wr W248).wr W252).ext E254).wr W258).wr W262).keep P303_0).ext E311).wr W315).wr W319)
    have nq375 : i0_119 ≠ fr_119 := (ne_exa Fc374 Fc342 (by decide))
    have nq376 : i0_119 ≠ er_119 := (ne_exa Fc374 Fc344 (by decide))
    have nq377 : i0_119 ≠ ev_119 := (ne_exa Fc374 Fc346 (by decide))
    have nq378 : i0_119 ≠ pl_119 := (ne_exa Fc374 Fc348 (by decide))
    have nq379 : i0_119 ≠ b187 := (Nat.ne_of_lt (Nat.lt_of_lt_of_le (((((((P119_32.ext E121).wr W125).wr W129).ext E131).wr W135).wr W139).keep P180_0).lt (Nat.le_of_eq g187.symm)))
    have nq380 : i0_119 ≠ b193 := (Nat.ne_of_lt (Nat.lt_of_lt_of_le (((((((((P119_32.ext E121).wr W125).wr W129).ext E131).wr W135).wr W139).keep P180_0).ext E187).wr W191).lt (Nat.le_of_eq g193.symm)))
    have nq381 : i0_119 ≠ b244 := (Nat.ne_of_lt (Nat.lt_of_lt_of_le ((((((((((((P119_32.ext E121).wr W125).wr W129).ext E131).wr W135).wr W139).keep P180_0).ext E187).wr W191).ext E193).wr W197).keep P237_0).lt (Nat.le_of_eq g244.symm)))
    have nq382 : i0_119 ≠ b254 := (Nat.ne_of_lt (Nat.lt_of_lt_of_le (((((((((((((((P119_32.ext E121).wr W125).wr W129).ext E131).wr W135).wr W139).keep P180_0).ext E187).wr W191).ext E193).wr W197).keep P237_0).ext E244).wr W248).wr W252).lt (Nat.le_of_eq g254.symm)))
    have nq383 : i0_119 ≠ b311 := (Nat.ne_of_lt (Nat.lt_of_lt_of_le (((((((((((((((((((P119_32.ext E121).wr W125).wr W129).ext E131).wr W135).wr W139).keep P180_0).ext E187).wr W191).ext E193).wr W197).keep P237_0).ext E244).wr W248).wr W252).ext E254).wr W258).wr W262).keep P303_0).lt (Nat.le_of_eq g311.symm)))
    have Fc384 := ((((((((((((((((((((((P119_20.ext E121).other W125 nq371).other W129 nq371).ext E131).other W135 nq372).other W139 nq372).keep P180_0 (ninS (Ne.symm nq373) (ninS (Ne.symm P119_56) (ninS nq375 (ninS nq376 (ninS nq377 (ninS nq378 nin0))))))).ext E187).other W191 nq379).ext E193).other W197 nq380).keep P237_0 (ninS (Ne.symm nq373) (ninS (Ne.symm P119_56) (ninS nq375 (ninS nq376 (ninS nq377 (ninS nq378 nin0))))))).ext E244).other W248 nq381).other W252 nq381).ext E254).other W258 nq382).other W262 nq382).keep P303_0 (ninS (Ne.symm nq373) (ninS (Ne.symm P119_56) (ninS nq375 (ninS nq376 (ninS nq377 (ninS nq378 nin0))))))).ext E311).other W315 nq383).other W319 nq383)
    have nq385 : i1_119 ≠ b121 := (Nat.ne_of_lt (Nat.lt_of_lt_of_le P119_33.lt (Nat.le_of_eq g121.symm)))
    have nq386 : i1_119 ≠ b131 := (Nat.ne_of_lt (Nat.lt_of_lt_of_le (((P119_33.ext E121).wr W125).wr W129).lt (Nat.le_of_eq g131.symm)))
    have nq387 : b115 ≠ i1_119 := (Nat.ne_of_lt (Nat.lt_of_lt_of_le A115.lt P119_11))
    have Fc388 := ((((((((((((((((((((((P119_33.ext E121).wr W125).wr W129).ext E131).wr W135).wr W139).keep P180_0).ext E187).wr W191).ext E193).wr W197).keep P237_0).ext E244).wr W248).wr W252).ext E254).wr W258).wr W262).keep P303_0).ext E311).wr W315).wr W319)
    have nq389 : i1_119 ≠ fr_119 := (ne_exa Fc388 Fc342 (by decide))
    have nq390 : i1_119 ≠ er_119 := (ne_exa Fc388 Fc344 (by decide))
    have nq391 : i1_119 ≠ ev_119 := (ne_exa Fc388 Fc346 (by decide))
    have nq392 : i1_119 ≠ pl_119 := (ne_exa Fc388 Fc348 (by decide))
    have nq393 : i1_119 ≠ b187 := (Nat.ne_of_lt (Nat.lt_of_lt_of_le (((((((P119_33.ext E121).wr W125).wr W129).ext E131).wr W135).wr W139).keep P180_0).lt (Nat.le_of_eq g187.symm)))
    have nq394 : i1_119 ≠ b193 := (Nat.ne_of_lt (Nat.lt_of_lt_of_le (((((((((P119_33.ext E121).wr W125).wr W129).ext E131).wr W135).wr W139).keep P180_0).ext E187).wr W191).lt (Nat.le_of_eq g193.symm)))
    have nq395 : i1_119 ≠ b244 := (Nat.ne_of_lt (Nat.lt_of_lt_of_le ((((((((((((P119_33.ext E121).wr W125).wr W129).ext E131).wr W135).wr W139).keep P180_0).ext E187).wr W191).ext E193).wr W197).keep P237_0).lt (Nat.le_of_eq g244.symm)))
    have nq396 : i1_119 ≠ b254 := (Nat.ne_of_lt (Nat.lt_of_lt_of_le (((((((((((((((P119_33.ext E121).wr W125).wr W129).ext E131).wr W135).wr W139).keep P180_0).ext E187).wr W191).ext E193).wr W197).keep P237_0).ext E244).wr W248).wr W252).lt (Nat.le_of_eq g254.symm)))
    have nq397 : i1_119 ≠ b311 := (Nat.ne_of_lt (Nat.lt_of_lt_of_le (((((((((((((((((((P119_33.ext E121).wr W125).wr W129).ext E131).wr W135).wr W139).keep P180_0).ext E187).wr W191).ext E193).wr W197).keep P237_0).ext E244).wr W248).wr W252).ext E254).wr W258).wr W262).keep P303_0).lt (Nat.le_of_eq g311.symm)))
    have Fc398 := ((((((((((((((((((((((P119_21.ext E121).other W125 nq385).other W129 nq385).ext E131).other W135 nq386).other W139 nq386).keep P180_0 (ninS (Ne.symm nq387) (ninS (Ne.symm P119_57) (ninS nq389 (ninS nq390 (ninS nq391 (ninS nq392 nin0))))))).ext E187).other W191 nq393).ext E193).other W197 nq394).keep P237_0 (ninS (Ne.symm nq387) (ninS (Ne.symm P119_57) (ninS nq389 (ninS nq390 (ninS nq391 (ninS nq392 nin0))))))).ext E244).other W248 nq395).other W252 nq395).ext E254).other W258 nq396).other W262 nq396).keep P303_0 (ninS (Ne.symm nq387) (ninS (Ne.symm P119_57) (ninS nq389 (ninS nq390 (ninS nq391 (ninS nq392 nin0))))))).ext E311).other W315 nq397).other W319 nq397)
    have nq399 : va_119 ≠ b121 := (Nat.ne_of_lt (Nat.lt_of_lt_of_le P119_31.lt (Nat.le_of_eq g121.symm)))
    have nq400 : va_119 ≠ b131 := (Nat.ne_of_lt (Nat.lt_of_lt_of_le (((P119_31.ext E121).wr W125).wr W129).lt (Nat.le_of_eq g131.symm)))
    have nq401 : b115 ≠ va_119 := (Nat.ne_of_lt (Nat.lt_of_lt_of_le A115.lt P119_9))
    have Fc402 := ((((((((((((((((((((((P119_31.ext E121).wr W125).wr W129).ext E131).wr W135).wr W139).keep P180_0).ext E187).wr W191).ext E193).wr W197).keep P237_0).ext E244).wr W248).wr W252).ext E254).wr W258).wr W262).keep P303_0).ext E311).wr W315).wr W319)
    have nq403 : va_119 ≠ fr_119 := (ne_exa Fc402 Fc342 (by decide))
    have nq404 : va_119 ≠ er_119 := (ne_exa Fc402 Fc344 (by decide))
    have nq405 : va_119 ≠ ev_119 := (ne_exa Fc402 Fc346 (by decide))
    have nq406 : va_119 ≠ pl_119 := (ne_exa Fc402 Fc348 (by decide))
    have nq407 : va_119 ≠ b187 := (Nat.ne_of_lt (Nat.lt_of_lt_of_le (((((((P119_31.ext E121).wr W125).wr W129).ext E131).wr W135).wr W139).keep P180_0).lt (Nat.le_of_eq g187.symm)))
    have nq408 : va_119 ≠ b193 := (Nat.ne_of_lt (Nat.lt_of_lt_of_le (((((((((P119_31.ext E121).wr W125).wr W129).ext E131).wr W135).wr W139).keep P180_0).ext E187).wr W191).lt (Nat.le_of_eq g193.symm)))
    have nq409 : va_119 ≠ b244 := (Nat.ne_of_lt (Nat.lt_of_lt_of_le ((((((((((((P119_31.ext E121).wr W125).wr W129).ext E131).wr W135).wr W139).keep P180_0).ext E187).wr W191).ext E193).wr W197).keep P237_0).lt (Nat.le_of_eq g244.symm)))
    have nq410 : va_119 ≠ b254 := (Nat.ne_of_lt (Nat.lt_of_lt_of_le (((((((((((((((P119_31.ext E121).wr W125).wr W129).ext E131).wr W135).wr W139).keep P180_0).ext E187).wr W191).ext E193).wr W197).keep P237_0).ext E244).wr W248).wr W252).lt (Nat.le_of_eq g254.symm)))
    have nq411 : va_119 ≠ b311 := (Nat.ne_of_lt (Nat.lt_of_lt_of_le (((((((((((((((((((P119_31.ext E121).wr W125).wr W129).ext E131).wr W135).wr W139).keep P180_0).ext E187).wr W191).ext E193).wr W197).keep P237_0).ext E244).wr W248).wr W252).ext E254).wr W258).wr W262).keep P303_0).lt (Nat.le_of_eq g311.symm)))
    have Fc412 := ((((((((((((((((((((((P119_22.ext E121).other W125 nq399).other W129 nq399).ext E131).other W135 nq400).other W139 nq400).keep P180_0 (ninS (Ne.symm nq401) (ninS (Ne.symm P119_58) (ninS nq403 (ninS nq404 (ninS nq405 (ninS nq406 nin0))))))).ext E187).other W191 nq407).ext E193).other W197 nq408).keep P237_0 (ninS (Ne.symm nq401) (ninS (Ne.symm P119_58) (ninS nq403 (ninS nq404 (ninS nq405 (ninS nq406 nin0))))))).ext E244).other W248 nq409).other W252 nq409).ext E254).other W258 nq410).other W262 nq410).keep P303_0 (ninS (Ne.symm nq401) (ninS (Ne.symm P119_58) (ninS nq403 (ninS nq404 (ninS nq405 (ninS nq406 nin0))))))).ext E311).other W315 nq411).other W319 nq411)
    have nq413 : xa_237 ≠ b244 := (Nat.ne_of_lt (Nat.lt_of_lt_of_le P237_10.lt (Nat.le_of_eq g244.symm)))
    have nq414 : xa_237 ≠ b254 := (Nat.ne_of_lt (Nat.lt_of_lt_of_le (((P237_10.ext E244).wr W248).wr W252).lt (Nat.le_of_eq g254.symm)))
    have nq415 : b115 ≠ xa_237 := (Nat.ne_of_lt (Nat.lt_of_lt_of_le Fc213.lt P237_1))
    have nq416 : co_119 ≠ xa_237 := (Nat.ne_of_lt (Nat.lt_of_lt_of_le Fc231.lt P237_1))
    have nq417 : fr_119 ≠ xa_237 := (Nat.ne_of_lt (Nat.lt_of_lt_of_le Fc232.lt P237_1))
    have nq418 : er_119 ≠ xa_237 := (Nat.ne_of_lt (Nat.lt_of_lt_of_le Fc233.lt P237_1))
    have nq419 : ev_119 ≠ xa_237 := (Nat.ne_of_lt (Nat.lt_of_lt_of_le Fc234.lt P237_1))
    have nq420 : pl_119 ≠ xa_237 := (Nat.ne_of_lt (Nat.lt_of_lt_of_le Fc235.lt P237_1))
    have nq421 : xa_237 ≠ b311 := (Nat.ne_of_lt (Nat.lt_of_lt_of_le (((((((P237_10.ext E244).wr W248).wr W252).ext E254).wr W258).wr W262).keep P303_0).lt (Nat.le_of_eq g311.symm)))
    have Fc422 := ((((((((((P237_8.ext E244).other W248 nq413).other W252 nq413).ext E254).other W258 nq414).other W262 nq414).keep P303_0 (ninS (Ne.symm nq415) (ninS (Ne.symm nq416) (ninS (Ne.symm nq417) (ninS (Ne.symm nq418) (ninS (Ne.symm nq419) (ninS (Ne.symm nq420) nin0))))))).ext E311).other W315 nq421).other W319 nq421)
    have nq423 : xa_303 ≠ b311 := (Nat.ne_of_lt (Nat.lt_of_lt_of_le P303_10.lt (Nat.le_of_eq g311.symm)))
    have Fc424 := (((P303_8.ext E311).other W315 nq423).other W319 nq423)
    have nq425 : xb_237 ≠ b244 := (Nat.ne_of_lt (Nat.lt_of_lt_of_le P237_11.lt (Nat.le_of_eq g244.symm)))
    have nq426 : xb_237 ≠ b254 := (Nat.ne_of_lt (Nat.lt_of_lt_of_le (((P237_11.ext E244).wr W248).wr W252).lt (Nat.le_of_eq g254.symm)))
    have nq427 : b115 ≠ xb_237 := (Nat.ne_of_lt (Nat.lt_of_lt_of_le Fc213.lt P237_2))
    have nq428 : co_119 ≠ xb_237 := (Nat.ne_of_lt (Nat.lt_of_lt_of_le Fc231.lt P237_2))
    have nq429 : fr_119 ≠ xb_237 := (Nat.ne_of_lt (Nat.lt_of_lt_of_le Fc232.lt P237_2))
    have nq430 : er_119 ≠ xb_237 := (Nat.ne_of_lt (Nat.lt_of_lt_of_le Fc233.lt P237_2))
    have nq431 : ev_119 ≠ xb_237 := (Nat.ne_of_lt (Nat.lt_of_lt_of_le Fc234.lt P237_2))
    have nq432 : pl_119 ≠ xb_237 := (Nat.ne_of_lt (Nat.lt_of_lt_of_le Fc235.lt P237_2))
    have nq433 : xb_237 ≠ b311 := (Nat.ne_of_lt (Nat.lt_of_lt_of_le (((((((P237_11.ext E244).wr W248).wr W252).ext E254).wr W258).wr W262).keep P303_0).lt (Nat.le_of_eq g311.symm)))
    have Fc434 := ((((((((((P237_9.ext E244).other W248 nq425).other W252 nq425).ext E254).other W258 nq426).other W262 nq426).keep P303_0 (ninS (Ne.symm nq427) (ninS (Ne.symm nq428) (ninS (Ne.symm nq429) (ninS (Ne.symm nq430) (ninS (Ne.symm nq431) (ninS (Ne.symm nq432) nin0))))))).ext E311).other W315 nq433).other W319 nq433)
    have nq435 : xb_303 ≠ b311 := (Nat.ne_of_lt (Nat.lt_of_lt_of_le P303_11.lt (Nat.le_of_eq g311.symm)))
    have Fc436 := (((P303_9.ext E311).other W315 nq435).other W319 nq435)
    have Fc437 := (((P303_24.ext E311).wr W315).wr W319)
    have Fc438 := ((((((((((((((((((((((P119_29.ext E121).wr W125).wr W129).ext E131).wr W135).wr W139).keep P180_0).ext E187).wr W191).ext E193).wr W197).keep P237_0).ext E244).wr W248).wr W252).ext E254).wr W258).wr W262).keep P303_0).ext E311).wr W315).wr W319)
    have Fc439 := ((((((((((P237_10.ext E244).wr W248).wr W252).ext E254).wr W258).wr W262).keep P303_0).ext E311).wr W315).wr W319)
    have Fc440 := (((P303_10.ext E311).wr W315).wr W319)
    have Fc441 := ((((((((((P237_11.ext E244).wr W248).wr W252).ext E254).wr W258).wr W262).keep P303_0).ext E311).wr W315).wr W319)
    have Fc442 := (((P303_11.ext E311).wr W315).wr W319)
    have nq443 : i0_119 ≠ xb_237 := (Nat.ne_of_lt (Nat.lt_of_lt_of_le (((((((((((P119_32.ext E121).wr W125).wr W129).ext E131).wr W135).wr W139).keep P180_0).ext E187).wr W191).ext E193).wr W197).lt P237_2))
    have nq444 : i1_119 ≠ xb_237 := (Nat.ne_of_lt (Nat.lt_of_lt_of_le (((((((((((P119_33.ext E121).wr W125).wr W129).ext E131).wr W135).wr W139).keep P180_0).ext E187).wr W191).ext E193).wr W197).lt P237_2))
    have nq445 : i0_119 ≠ xb_303 := (Nat.ne_of_lt (Nat.lt_of_lt_of_le ((((((((((((((((((P119_32.ext E121).wr W125).wr W129).ext E131).wr W135).wr W139).keep P180_0).ext E187).wr W191).ext E193).wr W197).keep P237_0).ext E244).wr W248).wr W252).ext E254).wr W258).wr W262).lt P303_2))
    have nq446 : i1_119 ≠ xb_303 := (Nat.ne_of_lt (Nat.lt_of_lt_of_le ((((((((((((((((((P119_33.ext E121).wr W125).wr W129).ext E131).wr W135).wr W139).keep P180_0).ext E187).wr W191).ext E193).wr W197).keep P237_0).ext E244).wr W248).wr W252).ext E254).wr W258).wr W262).lt P303_2))
    have nq447 : ba_119 ≠ b121 := (Nat.ne_of_lt (Nat.lt_of_lt_of_le P119_29.lt (Nat.le_of_eq g121.symm)))
    have nq448 : ba_119 ≠ b131 := (Nat.ne_of_lt (Nat.lt_of_lt_of_le (((P119_29.ext E121).wr W125).wr W129).lt (Nat.le_of_eq g131.symm)))
    have nq449 : b115 ≠ ba_119 := (Nat.ne_of_lt (Nat.lt_of_lt_of_le A115.lt P119_7))
    have nq450 : ba_119 ≠ co_119 := (ne_exa Fc438 Fc360 (by decide))
    have nq451 : ba_119 ≠ fr_119 := (ne_exa Fc438 Fc342 (by decide))
    have nq452 : ba_119 ≠ er_119 := (ne_exa Fc438 Fc344 (by decide))
    have nq453 : ba_119 ≠ ev_119 := (ne_exa Fc438 Fc346 (by decide))
    have nq454 : ba_119 ≠ b187 := (Nat.ne_of_lt (Nat.lt_of_lt_of_le (((((((P119_29.ext E121).wr W125).wr W129).ext E131).wr W135).wr W139).keep P180_0).lt (Nat.le_of_eq g187.symm)))
    have nq455 : ba_119 ≠ b193 := (Nat.ne_of_lt (Nat.lt_of_lt_of_le (((((((((P119_29.ext E121).wr W125).wr W129).ext E131).wr W135).wr W139).keep P180_0).ext E187).wr W191).lt (Nat.le_of_eq g193.symm)))
    have nq456 : ba_119 ≠ b244 := (Nat.ne_of_lt (Nat.lt_of_lt_of_le ((((((((((((P119_29.ext E121).wr W125).wr W129).ext E131).wr W135).wr W139).keep P180_0).ext E187).wr W191).ext E193).wr W197).keep P237_0).lt (Nat.le_of_eq g244.symm)))
    have nq457 : ba_119 ≠ b254 := (Nat.ne_of_lt (Nat.lt_of_lt_of_le (((((((((((((((P119_29.ext E121).wr W125).wr W129).ext E131).wr W135).wr W139).keep P180_0).ext E187).wr W191).ext E193).wr W197).keep P237_0).ext E244).wr W248).wr W252).lt (Nat.le_of_eq g254.symm)))
    have nq458 : ba_119 ≠ b311 := (Nat.ne_of_lt (Nat.lt_of_lt_of_le (((((((((((((((((((P119_29.ext E121).wr W125).wr W129).ext E131).wr W135).wr W139).keep P180_0).ext E187).wr W191).ext E193).wr W197).keep P237_0).ext E244).wr W248).wr W252).ext E254).wr W258).wr W262).keep P303_0).lt (Nat.le_of_eq g311.symm)))
    have Fc459 := ((((((((((((((((((((((P119_18.ext E121).other W125 nq447).other W129 nq447).ext E131).other W135 nq448).other W139 nq448).keep P180_0 (ninS (Ne.symm nq449) (ninS nq450 (ninS nq451 (ninS nq452 (ninS nq453 (ninS P119_60 nin0))))))).ext E187).other W191 nq454).ext E193).other W197 nq455).keep P237_0 (ninS (Ne.symm nq449) (ninS nq450 (ninS nq451 (ninS nq452 (ninS nq453 (ninS P119_60 nin0))))))).ext E244).other W248 nq456).other W252 nq456).ext E254).other W258 nq457).other W262 nq457).keep P303_0 (ninS (Ne.symm nq449) (ninS nq450 (ninS nq451 (ninS nq452 (ninS nq453 (ninS P119_60 nin0))))))).ext E311).other W315 nq458).other W319 nq458)
    have nq460 : pl_119 ≠ b311 := (Nat.ne_of_lt (Nat.lt_of_lt_of_le Vr309.lt (Nat.le_of_eq g311.symm)))
    have Fc461 := (((Vr309.ext E311).other W315 nq460).other W319 nq460)
    have nq462 : fr_119 ≠ b311 := (Nat.ne_of_lt (Nat.lt_of_lt_of_le Vr306.lt (Nat.le_of_eq g311.symm)))
    have Fc463 := (((Vr306.ext E311).other W315 nq462).other W319 nq462)
    have Fc464 := ((Ea311.wr W315).wr W319)
    have nq465 : ba_119 ≠ xa_237 := (Nat.ne_of_lt (Nat.lt_of_lt_of_le (((((((((((P119_29.ext E121).wr W125).wr W129).ext E131).wr W135).wr W139).keep P180_0).ext E187).wr W191).ext E193).wr W197).lt P237_1))
    have nq466 : ba_119 ≠ xa_303 := (Nat.ne_of_lt (Nat.lt_of_lt_of_le ((((((((((((((((((P119_29.ext E121).wr W125).wr W129).ext E131).wr W135).wr W139).keep P180_0).ext E187).wr W191).ext E193).wr W197).keep P237_0).ext E244).wr W248).wr W252).ext E254).wr W258).wr W262).lt P303_1))
    have nq467 : pl_119 ≠ xa_303 := (Nat.ne_of_lt (Nat.lt_of_lt_of_le Fc300.lt P303_1))
    obtain ⟨_, T468, L468, X468, hQ468, st468⟩ := own_cV X319 hx hZ hw hown (b := b115) (W := 0) (rmm5 l Z a0 hw [] b115 b311 co_119 fr_119 er_119 ev_119 pl_119 rh_119 ba_119 ri_119 va_119 i0_119 i1_119 xa_237 xa_303 xb_237 xb_303 ker_119 kev_119 krh_119 kba_119 kri_119 ki_119 kva_119 k187 k244 k193 k254 (.ref xa_180) (.ref xb_180) (.int ((((0 : Int32) + (1 : Int32)) + (1 : Int32)) + (1 : Int32))) d0 d1 ee_103 (own_s pp gg d1) (own_s pp d1 gg) (own_s pp iA iB) (own_s pp iB iA) (own_s pp iC iD) (own_s pp iD iC) pp pq (1 : Int32) (2 : Int32) k311 kpl_119 kfr_119 [(.int (-1)), (.int (-1)), (.int (-1))] h319 n0 ZZ320 Fc322 Fc323 Fc324 Fc325 Fc326 Fc327 Fc328 Fc329 Fc330 Fc331 Fc332 Fc333 Fc335 Fc337 Fc355 Fc370 Fc384 Fc398 Fc412 Fc422 Fc424 Fc434 Fc436 Fc437 Fc344 Fc346 Fc341 Fc438 Fc359 Fc374 Fc388 Fc402 Fc439 Fc440 Fc441 Fc442 P119_36 g_b115 g_ri_119 g_i0_119 g_i1_119 g_va_119 P119_50 (Ne.symm nq443) (Ne.symm nq444) (Ne.symm nq445) (Ne.symm nq446) P119_51 P119_52 P119_53 P119_54 P119_55 (own_nn8 d8) (own_nn8 d8') (own_nn9 he9) hpq2 (by decide) hH Fc459 Va319 Fc461 Fc463 Fc348 Fc342 Fc464 g_ba_119 g_pl_119 P119_60 (Ne.symm nq458) (Ne.symm nq460) nq465 nq466 nq420 nq467 (⟨by decide, by decide⟩) (⟨by decide, by decide⟩) rfl rfl (Nat.le_of_ble_eq_true rfl) (Nat.le_of_ble_eq_true rfl)) (by decide) (by decide) (by decide) 62 rfl 63 rfl 65 rfl 64 rfl 66 rfl 7 rfl e319 Fc437 (g := (mkF m 198 #[oI p0, oI p1, oI p2, oI p3, oI pp, oI qq, oD d0, oV, oD d1, oV, oD ee_103, oV, oR b105, oR b115, oU, oU, oU, oU] [(.ref b311), (.ref b115)])) rfl (by rw [hml]; rfl) (argsL := [(.ref b311)]) (rest := []) (lenOf pd9 rfl) rfl (Nat.le_of_eq rfl) (hb hby at_198) rfl (cN := 29) rfl (by decide) (sN := 136) rfl (by decide)
    obtain ⟨j0_468, j1_468, rfl, Nq468, P468_0, P468_1, P468_2, P468_3, P468_4, P468_5, P468_6, P468_7, P468_8, P468_9, P468_10, P468_11, P468_12, P468_13, P468_14, P468_15, P468_16, P468_17, P468_18, P468_19⟩ := hQ468
    have N468 := Fr.app N319 Nq468
    have ZZ469 : n0 ≤ T468.heap.size := Nat.le_trans ZZ320 P468_0.1
    obtain ⟨hM0, hM1, hY0, hY1⟩ := own_law0 p0 p1 hp d8 d8' he9 hDA hDB hDC hDD
    have nq470 : co_119 ≠ b311 := (Nat.ne_of_lt (Nat.lt_of_lt_of_le Vr305.lt (Nat.le_of_eq g311.symm)))
    have nq471 : b115 ≠ co_119 := (Nat.ne_of_lt (Nat.lt_of_lt_of_le A115.lt P119_1))
    have nq472 : co_119 ≠ pl_119 := (ne_exa (Fc360.keep P468_0) (Fc348.keep P468_0) (by decide))
    have Fc473 := ((((Vr305.ext E311).other W315 nq470).other W319 nq470).keep P468_0 (ninS (Ne.symm nq471) (ninS (Ne.symm nq450) (ninS nq472 (ninS (Ne.symm nq361) (ninS P119_56 (ninS P119_57 (ninS P119_58 nin0))))))))
    obtain ⟨_, T474, L474, X474, hQ474, st474⟩ := own_cV X468 hx hZ hw hown (b := b115) (W := 0) (rmm12 l Z a0 hw [] b115 co_119 ba_119 ri_119 j0_468 j1_468 kco_119 kba_119 kri_119 ki_119 (1 : Int32) (2 : Int32) [(.double (FP.i2d p2)), (.double (FP.i2d p0)), (.double (FP.i2d p1))] (FP.i2d p0) (FP.i2d p1) (own_s pp iA iB) (own_s pp iB iA) (own_s pp iC iD) (own_s pp iD iC) T468.heap n0 ZZ469 P468_6 P468_1 P468_8 P468_9 P468_12 Fc473 P468_19 P468_13 P468_14 P468_15 (Fc359.keep P468_0) (⟨by decide, by decide⟩) (⟨by decide, by decide⟩) rfl rfl hM0 hM1) (by decide) (by decide) (by decide) 94 rfl 95 rfl 97 rfl 96 rfl 98 rfl 7 rfl rfl P468_12 (g := (mkF m 224 #[oI p0, oI p1, oI p2, oI p3, oI pp, oI qq, oD d0, oV, oD d1, oV, oD ee_103, oV, oR b105, oR b115, oI 1, oU, oU, oU] [(.ref b115)])) rfl (by rw [hml]; rfl) (argsL := []) (rest := []) (lenOf pd10 rfl) rfl (Nat.le_of_eq rfl) (hb hby at_224) rfl (cN := 30) rfl (by decide) (sN := 138) rfl (by decide)
    obtain ⟨y_474, ky_474, rfl, Nq474, P474_0, P474_1, P474_2, P474_3⟩ := hQ474
    have N474 := Fr.app N468 Nq474
    have g_y_474 : n0 ≤ y_474 := Nat.le_trans ZZ469 P474_1
    have ZZ475 : n0 ≤ T474.heap.size := Nat.le_trans ZZ469 P474_0.1
    obtain ⟨cl476, Ar476, qk476, Sz476, Nz476, Hh476, Gg476⟩ := id P474_2
    have hin477 : ¬ (pp < 0 ∨ cl476.slots.size ≤ (pp).toNatClampNeg) := inb_of Sz476 (own_in hp)
    have hat477 : cl476.slots[(pp).toNatClampNeg]? = some (.double (own_s pp (own_ax (FP.i2d p1) (own_ax (FP.i2d p0) (0 : UInt64) (own_s pp iA iB)) (own_s pp iC iD)) (own_ax (FP.i2d p1) (own_ax (FP.i2d p0) (0 : UInt64) (own_s pp iB iA)) (own_s pp iD iC)))) := Has.at Hh476 hin477 (own_gd hp)
    have hin478 : ¬ (pp < 0 ∨ cl476.slots.size ≤ (pp).toNatClampNeg) := inb_of Sz476 (own_in hp)
    have hat478 : cl476.slots[(pp).toNatClampNeg]? = some (.double (own_s pp (own_ax (FP.i2d p1) (own_ax (FP.i2d p0) (0 : UInt64) (own_s pp iA iB)) (own_s pp iC iD)) (own_ax (FP.i2d p1) (own_ax (FP.i2d p0) (0 : UInt64) (own_s pp iB iA)) (own_s pp iD iC)))) := Has.at Hh476 hin478 (own_gd hp)
    have hin479 : ¬ (pq < 0 ∨ cl476.slots.size ≤ (pq).toNatClampNeg) := inb_of Sz476 (own_in (own_pq01 hpq2))
    have hat479 : cl476.slots[(pq).toNatClampNeg]? = some (.double (own_s pp (own_ax (FP.i2d p1) (own_ax (FP.i2d p0) (0 : UInt64) (own_s pp iB iA)) (own_s pp iD iC)) (own_ax (FP.i2d p1) (own_ax (FP.i2d p0) (0 : UInt64) (own_s pp iA iB)) (own_s pp iC iD)))) := Has.at Hh476 hin479 (own_gd' hpq2)
    obtain ⟨fs, hr, hrun, hended, hW, hsame⟩ := X474.leave (v := some (.int 1)) (fun h => by rw [Bd.returns] at h; cases h)
    refine ⟨_, _, pre0 _ (pre310 _ ?_), hrun, hended, _, _, rfl, ?_, ⟨_, rfl⟩, hW, hsame.mono (by decide) (by decide)⟩
    · show own_S p e below T303 m 182 #[oI p0, oI p1, oI p2, oI p3, oI pp, oI qq, oD d0, oV, oD d1, oV, oD ee_103, oV, oR b105, oR b115, oU, oU, oU, oU] [(.int qq)] _
      refine XS.ifNo X303.here hx rfl (hb hby at_182) rfl ((if0 _ _).trans (teq (hq : qq = (0 : Int32))).2) ?_
      refine XS.aload X303.here hx rfl (hb hby at_185) rfl rfl ?_
      refine XS.iconst X303.here hx rfl (hb hby at_187) ?_
      show own_S p e below T303 m 188 _ [(.int 2), (.ref b115)] _
      refine st311 _ ?_
      show own_S p e below T311 m 190 _ [(.ref b311), (.ref b115)] _
      refine XS.dup X311.here hx rfl (hb hby at_190) rfl rfl ?_
      refine XS.iconst X311.here hx rfl (hb hby at_191) ?_
      refine XS.iconst X311.here hx rfl (hb hby at_192) ?_
      show own_S p e below T311 m 193 #[oI p0, oI p1, oI p2, oI p3, oI pp, oI qq, oD d0, oV, oD d1, oV, oD ee_103, oV, oR b105, oR b115, oU, oU, oU, oU] [(.int 1), (.int 0), (.ref b311), (.ref b311), (.ref b115)] _
      refine st315 _ ?_
      show own_S p e below T315 m 194 _ [(.ref b311), (.ref b115)] _
      refine XS.dup X315.here hx rfl (hb hby at_194) rfl rfl ?_
      refine XS.iconst X315.here hx rfl (hb hby at_195) ?_
      refine XS.iconst X315.here hx rfl (hb hby at_196) ?_
      show own_S p e below T315 m 197 _ [(.int 2), (.int 1), (.ref b311), (.ref b311), (.ref b115)] _
      refine st319 _ ?_
      show own_S p e below T319 m 198 _ [(.ref b311), (.ref b115)] _
      refine st468.trans ?_
      show own_S p e below T468 m 201 _ [(.int 1)] _
      refine XS.goto X468.here hx rfl (pc0 := 201) (pc' := 220) rfl (hb hby at_201) (by decide) (by decide) ?_
      refine XS.istore X468.here hx rfl (hb hby at_220) rfl (l' := #[oI p0, oI p1, oI p2, oI p3, oI pp, oI qq, oD d0, oV, oD d1, oV, oD ee_103, oV, oR b105, oR b115, oI 1, oU, oU, oU]) rfl ?_
      refine XS.aload X468.here hx rfl (hb hby at_222) rfl rfl ?_
      show own_S p e below T468 m 224 _ [(.ref b115)] _
      refine st474.trans ?_
      show own_S p e below T474 m 227 _ [(.ref y_474)] _
      refine XS.astore X474.here hx rfl (hb hby at_227) rfl rfl (l' := #[oI p0, oI p1, oI p2, oI p3, oI pp, oI qq, oD d0, oV, oD d1, oV, oD ee_103, oV, oR b105, oR b115, oI 1, oR y_474, oU, oU]) rfl ?_
      refine XS.iload X474.here hx rfl (hb hby at_229) rfl ?_
      refine XS.ifNo X474.here hx rfl (hb hby at_231) rfl ((if0 _ _).trans (feq (by decide : ¬ ((1 : Int32) = (0 : Int32)))).1) ?_
      refine XS.aload X474.here hx rfl (hb hby at_234) rfl rfl ?_
      show own_S p e below T474 m 236 _ [(.ref y_474)] _
      refine X474.arraylength hx Ar476.1 (State.isArrayOf_alike hZ.alike Ar476.2.1) (g := (mkF m 236 #[oI p0, oI p1, oI p2, oI p3, oI pp, oI qq, oD d0, oV, oD d1, oV, oD ee_103, oV, oR b105, oR b115, oI 1, oR y_474, oU, oU] [(.ref y_474)])) rfl rfl (hb hby at_236) _ ?_
      rw [len_of Sz476 Nz476]
      show own_S p e below T474 m 237 _ [(.int 2)] _
      refine XS.iconst X474.here hx rfl (hb hby at_237) ?_
      refine XS.icmpYes X474.here hx rfl (pc0 := 238) (pc' := 243) rfl (hb hby at_238) rfl (teq (by decide : (2 : Int32) = (2 : Int32))).1 (by decide) (by decide) ?_
      refine XS.aload X474.here hx rfl (hb hby at_243) rfl rfl ?_
      refine XS.iload X474.here hx rfl (hb hby at_245) rfl ?_
      show own_S p e below T474 m 247 _ [(.int pp), (.ref y_474)] _
      refine X474.daload hx (j := pp) (v := (.double (own_s pp (own_ax (FP.i2d p1) (own_ax (FP.i2d p0) (0 : UInt64) (own_s pp iA iB)) (own_s pp iC iD)) (own_ax (FP.i2d p1) (own_ax (FP.i2d p0) (0 : UInt64) (own_s pp iB iA)) (own_s pp iD iC))))) Ar476.1 (State.isArrayOf_alike hZ.alike Ar476.2.1) Ar476.2.2 hin477 hat477 (g := (mkF m 247 #[oI p0, oI p1, oI p2, oI p3, oI pp, oI qq, oD d0, oV, oD d1, oV, oD ee_103, oV, oR b105, oR b115, oI 1, oR y_474, oU, oU] [(.int pp), (.ref y_474)])) rfl rfl (hb hby at_247) _ ?_
      show own_S p e below T474 m 248 _ [(.double (own_s pp (own_ax (FP.i2d p1) (own_ax (FP.i2d p0) (0 : UInt64) (own_s pp iA iB)) (own_s pp iC iD)) (own_ax (FP.i2d p1) (own_ax (FP.i2d p0) (0 : UInt64) (own_s pp iB iA)) (own_s pp iD iC))))] _
      refine XS.dload X474.here hx rfl (hb hby at_248) rfl ?_
      show own_S p e below T474 m 250 _ [(.double d0), (.double (own_s pp (own_ax (FP.i2d p1) (own_ax (FP.i2d p0) (0 : UInt64) (own_s pp iA iB)) (own_s pp iC iD)) (own_ax (FP.i2d p1) (own_ax (FP.i2d p0) (0 : UInt64) (own_s pp iB iA)) (own_s pp iD iC))))] _
      refine XS.dmulS X474.here hx rfl (v := (FP.dmul (own_s pp (own_ax (FP.i2d p1) (own_ax (FP.i2d p0) (0 : UInt64) (own_s pp iA iB)) (own_s pp iC iD)) (own_ax (FP.i2d p1) (own_ax (FP.i2d p0) (0 : UInt64) (own_s pp iB iA)) (own_s pp iD iC))) d0)) (hb hby at_250) rfl hY0.1 rfl ?_
      show own_S p e below T474 m 251 _ [(.double (FP.dmul (own_s pp (own_ax (FP.i2d p1) (own_ax (FP.i2d p0) (0 : UInt64) (own_s pp iA iB)) (own_s pp iC iD)) (own_ax (FP.i2d p1) (own_ax (FP.i2d p0) (0 : UInt64) (own_s pp iB iA)) (own_s pp iD iC))) d0))] _
      refine XS.iloadN X474.here hx rfl (hb hby at_251) rfl ?_
      show own_S p e below T474 m 252 _ [(.int p0), (.double (FP.dmul (own_s pp (own_ax (FP.i2d p1) (own_ax (FP.i2d p0) (0 : UInt64) (own_s pp iA iB)) (own_s pp iC iD)) (own_ax (FP.i2d p1) (own_ax (FP.i2d p0) (0 : UInt64) (own_s pp iB iA)) (own_s pp iD iC))) d0))] _
      refine XS.i2dS X474.here hx rfl (v := (FP.i2d p0)) (hb hby at_252) rfl rfl ?_
      show own_S p e below T474 m 253 _ [(.double (FP.i2d p0)), (.double (FP.dmul (own_s pp (own_ax (FP.i2d p1) (own_ax (FP.i2d p0) (0 : UInt64) (own_s pp iA iB)) (own_s pp iC iD)) (own_ax (FP.i2d p1) (own_ax (FP.i2d p0) (0 : UInt64) (own_s pp iB iA)) (own_s pp iD iC))) d0))] _
      refine XS.dcmpS X474.here hx rfl (v := (0 : Int32)) (hb hby at_253) rfl hY0.2 ?_
      show own_S p e below T474 m 254 #[oI p0, oI p1, oI p2, oI p3, oI pp, oI qq, oD d0, oV, oD d1, oV, oD ee_103, oV, oR b105, oR b115, oI 1, oR y_474, oU, oU] [(.int 0)] _
      refine XS.ifNo X474.here hx rfl (hb hby at_254) rfl ((if0 _ _).trans (teq (by decide : (0 : Int32) = (0 : Int32))).2) ?_
      refine XS.iconst X474.here hx rfl (hb hby at_257) ?_
      refine XS.goto X474.here hx rfl (pc0 := 258) (pc' := 262) rfl (hb hby at_258) (by decide) (by decide) ?_
      refine XS.istore X474.here hx rfl (hb hby at_262) rfl (l' := #[oI p0, oI p1, oI p2, oI p3, oI pp, oI qq, oD d0, oV, oD d1, oV, oD ee_103, oV, oR b105, oR b115, oI 1, oR y_474, oI 1, oU]) rfl ?_
      show own_S p e below T474 m 264 #[oI p0, oI p1, oI p2, oI p3, oI pp, oI qq, oD d0, oV, oD d1, oV, oD ee_103, oV, oR b105, oR b115, oI 1, oR y_474, oI 1, oU] [] _
      refine XS.aload X474.here hx rfl (hb hby at_264) rfl rfl ?_
      refine XS.iload X474.here hx rfl (hb hby at_266) rfl ?_
      show own_S p e below T474 m 268 _ [(.int pp), (.ref y_474)] _
      refine X474.daload hx (j := pp) (v := (.double (own_s pp (own_ax (FP.i2d p1) (own_ax (FP.i2d p0) (0 : UInt64) (own_s pp iA iB)) (own_s pp iC iD)) (own_ax (FP.i2d p1) (own_ax (FP.i2d p0) (0 : UInt64) (own_s pp iB iA)) (own_s pp iD iC))))) Ar476.1 (State.isArrayOf_alike hZ.alike Ar476.2.1) Ar476.2.2 hin478 hat478 (g := (mkF m 268 #[oI p0, oI p1, oI p2, oI p3, oI pp, oI qq, oD d0, oV, oD d1, oV, oD ee_103, oV, oR b105, oR b115, oI 1, oR y_474, oI 1, oU] [(.int pp), (.ref y_474)])) rfl rfl (hb hby at_268) _ ?_
      show own_S p e below T474 m 269 _ [(.double (own_s pp (own_ax (FP.i2d p1) (own_ax (FP.i2d p0) (0 : UInt64) (own_s pp iA iB)) (own_s pp iC iD)) (own_ax (FP.i2d p1) (own_ax (FP.i2d p0) (0 : UInt64) (own_s pp iB iA)) (own_s pp iD iC))))] _
      refine XS.dload X474.here hx rfl (hb hby at_269) rfl ?_
      show own_S p e below T474 m 271 _ [(.double ee_103), (.double (own_s pp (own_ax (FP.i2d p1) (own_ax (FP.i2d p0) (0 : UInt64) (own_s pp iA iB)) (own_s pp iC iD)) (own_ax (FP.i2d p1) (own_ax (FP.i2d p0) (0 : UInt64) (own_s pp iB iA)) (own_s pp iD iC))))] _
      refine XS.dmulS X474.here hx rfl (v := (FP.dmul (own_s pp (own_ax (FP.i2d p1) (own_ax (FP.i2d p0) (0 : UInt64) (own_s pp iA iB)) (own_s pp iC iD)) (own_ax (FP.i2d p1) (own_ax (FP.i2d p0) (0 : UInt64) (own_s pp iB iA)) (own_s pp iD iC))) ee_103)) (hb hby at_271) rfl hY1.1 rfl ?_
      show own_S p e below T474 m 272 _ [(.double (FP.dmul (own_s pp (own_ax (FP.i2d p1) (own_ax (FP.i2d p0) (0 : UInt64) (own_s pp iA iB)) (own_s pp iC iD)) (own_ax (FP.i2d p1) (own_ax (FP.i2d p0) (0 : UInt64) (own_s pp iB iA)) (own_s pp iD iC))) ee_103))] _
      refine XS.aload X474.here hx rfl (hb hby at_272) rfl rfl ?_
      refine XS.iconst X474.here hx rfl (hb hby at_274) ?_
      refine XS.iload X474.here hx rfl (hb hby at_275) rfl ?_
      show own_S p e below T474 m 277 _ [(.int pp), (.int 1), (.ref y_474), (.double (FP.dmul (own_s pp (own_ax (FP.i2d p1) (own_ax (FP.i2d p0) (0 : UInt64) (own_s pp iA iB)) (own_s pp iC iD)) (own_ax (FP.i2d p1) (own_ax (FP.i2d p0) (0 : UInt64) (own_s pp iB iA)) (own_s pp iD iC))) ee_103))] _
      refine XS.isub X474.here hx rfl (hb hby at_277) rfl ?_
      show own_S p e below T474 m 278 _ [(.int ((1 : Int32) - pp)), (.ref y_474), (.double (FP.dmul (own_s pp (own_ax (FP.i2d p1) (own_ax (FP.i2d p0) (0 : UInt64) (own_s pp iA iB)) (own_s pp iC iD)) (own_ax (FP.i2d p1) (own_ax (FP.i2d p0) (0 : UInt64) (own_s pp iB iA)) (own_s pp iD iC))) ee_103))] _
      refine reI (hpq.symm : ((1 : Int32) - pp) = pq) ?_
      show own_S p e below T474 m 278 _ [(.int pq), (.ref y_474), (.double (FP.dmul (own_s pp (own_ax (FP.i2d p1) (own_ax (FP.i2d p0) (0 : UInt64) (own_s pp iA iB)) (own_s pp iC iD)) (own_ax (FP.i2d p1) (own_ax (FP.i2d p0) (0 : UInt64) (own_s pp iB iA)) (own_s pp iD iC))) ee_103))] _
      refine X474.daload hx (j := pq) (v := (.double (own_s pp (own_ax (FP.i2d p1) (own_ax (FP.i2d p0) (0 : UInt64) (own_s pp iB iA)) (own_s pp iD iC)) (own_ax (FP.i2d p1) (own_ax (FP.i2d p0) (0 : UInt64) (own_s pp iA iB)) (own_s pp iC iD))))) Ar476.1 (State.isArrayOf_alike hZ.alike Ar476.2.1) Ar476.2.2 hin479 hat479 (g := (mkF m 278 #[oI p0, oI p1, oI p2, oI p3, oI pp, oI qq, oD d0, oV, oD d1, oV, oD ee_103, oV, oR b105, oR b115, oI 1, oR y_474, oI 1, oU] [(.int pq), (.ref y_474), (.double (FP.dmul (own_s pp (own_ax (FP.i2d p1) (own_ax (FP.i2d p0) (0 : UInt64) (own_s pp iA iB)) (own_s pp iC iD)) (own_ax (FP.i2d p1) (own_ax (FP.i2d p0) (0 : UInt64) (own_s pp iB iA)) (own_s pp iD iC))) ee_103))])) rfl rfl (hb hby at_278) _ ?_
      show own_S p e below T474 m 279 _ [(.double (own_s pp (own_ax (FP.i2d p1) (own_ax (FP.i2d p0) (0 : UInt64) (own_s pp iB iA)) (own_s pp iD iC)) (own_ax (FP.i2d p1) (own_ax (FP.i2d p0) (0 : UInt64) (own_s pp iA iB)) (own_s pp iC iD)))), (.double (FP.dmul (own_s pp (own_ax (FP.i2d p1) (own_ax (FP.i2d p0) (0 : UInt64) (own_s pp iA iB)) (own_s pp iC iD)) (own_ax (FP.i2d p1) (own_ax (FP.i2d p0) (0 : UInt64) (own_s pp iB iA)) (own_s pp iD iC))) ee_103))] _
      refine XS.dload X474.here hx rfl (hb hby at_279) rfl ?_
      show own_S p e below T474 m 281 _ [(.double d1), (.double (own_s pp (own_ax (FP.i2d p1) (own_ax (FP.i2d p0) (0 : UInt64) (own_s pp iB iA)) (own_s pp iD iC)) (own_ax (FP.i2d p1) (own_ax (FP.i2d p0) (0 : UInt64) (own_s pp iA iB)) (own_s pp iC iD)))), (.double (FP.dmul (own_s pp (own_ax (FP.i2d p1) (own_ax (FP.i2d p0) (0 : UInt64) (own_s pp iA iB)) (own_s pp iC iD)) (own_ax (FP.i2d p1) (own_ax (FP.i2d p0) (0 : UInt64) (own_s pp iB iA)) (own_s pp iD iC))) ee_103))] _
      refine XS.dmulS X474.here hx rfl (v := (FP.dmul (own_s pp (own_ax (FP.i2d p1) (own_ax (FP.i2d p0) (0 : UInt64) (own_s pp iB iA)) (own_s pp iD iC)) (own_ax (FP.i2d p1) (own_ax (FP.i2d p0) (0 : UInt64) (own_s pp iA iB)) (own_s pp iC iD))) d1)) (hb hby at_281) rfl hY1.2.1 rfl ?_
      show own_S p e below T474 m 282 _ [(.double (FP.dmul (own_s pp (own_ax (FP.i2d p1) (own_ax (FP.i2d p0) (0 : UInt64) (own_s pp iB iA)) (own_s pp iD iC)) (own_ax (FP.i2d p1) (own_ax (FP.i2d p0) (0 : UInt64) (own_s pp iA iB)) (own_s pp iC iD))) d1)), (.double (FP.dmul (own_s pp (own_ax (FP.i2d p1) (own_ax (FP.i2d p0) (0 : UInt64) (own_s pp iA iB)) (own_s pp iC iD)) (own_ax (FP.i2d p1) (own_ax (FP.i2d p0) (0 : UInt64) (own_s pp iB iA)) (own_s pp iD iC))) ee_103))] _
      refine XS.daddS X474.here hx rfl (v := (FP.dadd (FP.dmul (own_s pp (own_ax (FP.i2d p1) (own_ax (FP.i2d p0) (0 : UInt64) (own_s pp iA iB)) (own_s pp iC iD)) (own_ax (FP.i2d p1) (own_ax (FP.i2d p0) (0 : UInt64) (own_s pp iB iA)) (own_s pp iD iC))) ee_103) (FP.dmul (own_s pp (own_ax (FP.i2d p1) (own_ax (FP.i2d p0) (0 : UInt64) (own_s pp iB iA)) (own_s pp iD iC)) (own_ax (FP.i2d p1) (own_ax (FP.i2d p0) (0 : UInt64) (own_s pp iA iB)) (own_s pp iC iD))) d1))) (hb hby at_282) rfl hY1.2.2.1 rfl ?_
      show own_S p e below T474 m 283 #[oI p0, oI p1, oI p2, oI p3, oI pp, oI qq, oD d0, oV, oD d1, oV, oD ee_103, oV, oR b105, oR b115, oI 1, oR y_474, oI 1, oU] [(.double (FP.dadd (FP.dmul (own_s pp (own_ax (FP.i2d p1) (own_ax (FP.i2d p0) (0 : UInt64) (own_s pp iA iB)) (own_s pp iC iD)) (own_ax (FP.i2d p1) (own_ax (FP.i2d p0) (0 : UInt64) (own_s pp iB iA)) (own_s pp iD iC))) ee_103) (FP.dmul (own_s pp (own_ax (FP.i2d p1) (own_ax (FP.i2d p0) (0 : UInt64) (own_s pp iB iA)) (own_s pp iD iC)) (own_ax (FP.i2d p1) (own_ax (FP.i2d p0) (0 : UInt64) (own_s pp iA iB)) (own_s pp iC iD))) d1)))] _
      refine XS.iloadN X474.here hx rfl (hb hby at_283) rfl ?_
      show own_S p e below T474 m 284 _ [(.int p1), (.double (FP.dadd (FP.dmul (own_s pp (own_ax (FP.i2d p1) (own_ax (FP.i2d p0) (0 : UInt64) (own_s pp iA iB)) (own_s pp iC iD)) (own_ax (FP.i2d p1) (own_ax (FP.i2d p0) (0 : UInt64) (own_s pp iB iA)) (own_s pp iD iC))) ee_103) (FP.dmul (own_s pp (own_ax (FP.i2d p1) (own_ax (FP.i2d p0) (0 : UInt64) (own_s pp iB iA)) (own_s pp iD iC)) (own_ax (FP.i2d p1) (own_ax (FP.i2d p0) (0 : UInt64) (own_s pp iA iB)) (own_s pp iC iD))) d1)))] _
      refine XS.i2dS X474.here hx rfl (v := (FP.i2d p1)) (hb hby at_284) rfl rfl ?_
      show own_S p e below T474 m 285 _ [(.double (FP.i2d p1)), (.double (FP.dadd (FP.dmul (own_s pp (own_ax (FP.i2d p1) (own_ax (FP.i2d p0) (0 : UInt64) (own_s pp iA iB)) (own_s pp iC iD)) (own_ax (FP.i2d p1) (own_ax (FP.i2d p0) (0 : UInt64) (own_s pp iB iA)) (own_s pp iD iC))) ee_103) (FP.dmul (own_s pp (own_ax (FP.i2d p1) (own_ax (FP.i2d p0) (0 : UInt64) (own_s pp iB iA)) (own_s pp iD iC)) (own_ax (FP.i2d p1) (own_ax (FP.i2d p0) (0 : UInt64) (own_s pp iA iB)) (own_s pp iC iD))) d1)))] _
      refine XS.dcmpS X474.here hx rfl (v := (0 : Int32)) (hb hby at_285) rfl hY1.2.2.2 ?_
      show own_S p e below T474 m 286 _ [(.int 0)] _
      refine XS.ifNo X474.here hx rfl (hb hby at_286) rfl ((if0 _ _).trans (teq (by decide : (0 : Int32) = (0 : Int32))).2) ?_
      refine XS.iconst X474.here hx rfl (hb hby at_289) ?_
      refine XS.goto X474.here hx rfl (pc0 := 290) (pc' := 294) rfl (hb hby at_290) (by decide) (by decide) ?_
      refine XS.istore X474.here hx rfl (hb hby at_294) rfl (l' := #[oI p0, oI p1, oI p2, oI p3, oI pp, oI qq, oD d0, oV, oD d1, oV, oD ee_103, oV, oR b105, oR b115, oI 1, oR y_474, oI 1, oI 1]) rfl ?_
      show own_S p e below T474 m 296 #[oI p0, oI p1, oI p2, oI p3, oI pp, oI qq, oD d0, oV, oD d1, oV, oD ee_103, oV, oR b105, oR b115, oI 1, oR y_474, oI 1, oI 1] [] _
      refine XS.iload X474.here hx rfl (hb hby at_296) rfl ?_
      refine XS.ifNo X474.here hx rfl (hb hby at_298) rfl ((if0 _ _).trans (feq (by decide : ¬ ((1 : Int32) = (0 : Int32)))).1) ?_
      refine XS.iload X474.here hx rfl (hb hby at_301) rfl ?_
      refine XS.ifNo X474.here hx rfl (hb hby at_303) rfl ((if0 _ _).trans (feq (by decide : ¬ ((1 : Int32) = (0 : Int32)))).1) ?_
      show own_S p e below T474 m 306 _ [] _
      refine XS.iconst X474.here hx rfl (hb hby at_306) ?_
      refine XS.goto X474.here hx rfl (pc0 := 307) (pc' := 311) rfl (hb hby at_307) (by decide) (by decide) ?_
      show own_S p e below T474 m 311 _ [(.int 1)] _
      exact retN X474 hx (t := .boolean) Bd.returns (by simp) (hb hby at_311) hr
    · show Qm0 Z p0 p1 p2 p3 h0 n0 _ T474.heap _
      exact ⟨rfl, N474⟩
  · skip
    obtain ⟨T480, h480, k480, X480, e480, E480, A480, Ea480, st480⟩ := newPE X303 hx hZ (own_w hw 27 rfl) rfl (g := (mkF m 207 #[oI p0, oI p1, oI p2, oI p3, oI pp, oI qq, oD d0, oV, oD d1, oV, oD ee_103, oV, oR b105, oR b115, oU, oU, oU, oU] [(.int 2), (.ref b115)])) rfl (hb hby at_207) rfl (by decide) (cap := 2) (by decide) (by decide) (by decide) (by decide) (ad := "[I") (by decide)
    obtain ⟨b480, g480⟩ : ∃ z, z = T303.heap.size := ⟨_, rfl⟩
    rw [← g480] at A480 Ea480 st480
    have g_b480 : n0 ≤ b480 := Nat.le_trans ZZ304 (Nat.le_of_eq g480.symm)
    have ZZ481 : n0 ≤ h480.size := Nat.le_trans ZZ304 E480.1
    have V_b480 : Arv Z h480 b480 k480 .int (2 : Int32) [(.int 0), (.int 0)] (.int 0) := (Arv.new A480 (by decide)).pad (pad_rep [] (.int 0) 2)
    obtain ⟨cl482, Ar482, qk482, Sz482, Nz482, Hh482, Gg482⟩ := id V_b480
    have hin483 : ¬ ((0 : Int32) < 0 ∨ cl482.slots.size ≤ ((0 : Int32)).toNatClampNeg) := inb_of Sz482 ⟨by decide, by decide⟩
    obtain ⟨T484, h484, X484, e484, W484, st484⟩ := stI X480 hx hZ e480 Ar482 (j := (0 : Int32)) hin483 (g := (mkF m 212 #[oI p0, oI p1, oI p2, oI p3, oI pp, oI qq, oD d0, oV, oD d1, oV, oD ee_103, oV, oR b105, oR b115, oU, oU, oU, oU] [(.int 2), (.int 0), (.ref b480), (.ref b480), (.ref b115)])) rfl rfl (hb hby at_212)
    have Va484 := Arv.set Ar482 qk482 Sz482 Nz482 Hh482 Gg482 rfl W484 0 rfl (Nat.le_of_ble_eq_true rfl)
    have N484 := Fr.snoc X484 N303 g_b480
    have ZZ485 : n0 ≤ h484.size := Nat.le_trans ZZ481 (Nat.le_of_eq W484.size.symm)
    obtain ⟨cl486, Ar486, qk486, Sz486, Nz486, Hh486, Gg486⟩ := id Va484
    have hin487 : ¬ ((1 : Int32) < 0 ∨ cl486.slots.size ≤ ((1 : Int32)).toNatClampNeg) := inb_of Sz486 ⟨by decide, by decide⟩
    obtain ⟨T488, h488, X488, e488, W488, st488⟩ := stI X484 hx hZ e484 Ar486 (j := (1 : Int32)) hin487 (g := (mkF m 216 #[oI p0, oI p1, oI p2, oI p3, oI pp, oI qq, oD d0, oV, oD d1, oV, oD ee_103, oV, oR b105, oR b115, oU, oU, oU, oU] [(.int 1), (.int 1), (.ref b480), (.ref b480), (.ref b115)])) rfl rfl (hb hby at_216)
    have Va488 := Arv.set Ar486 qk486 Sz486 Nz486 Hh486 Gg486 rfl W488 1 rfl (Nat.le_of_ble_eq_true rfl)
    have N488 := Fr.snoc X488 N484 g_b480
    have ZZ489 : n0 ≤ h488.size := Nat.le_trans ZZ485 (Nat.le_of_eq W488.size.symm)
    obtain ⟨iA, iB, iC, iD, hH, hDA, hDB, hDC, hDD⟩ := own_main1 hp d8 d8' he9 hgg
    have nq490 : b115 ≠ b480 := (Nat.ne_of_lt (Nat.lt_of_lt_of_le P303_24.lt (Nat.le_of_eq g480.symm)))
    have Fc491 := (((P303_12.ext E480).other W484 (Or.inl nq490)).other W488 (Or.inl nq490))
    have Fc492 := (((P303_13.ext E480).other W484 (Or.inl nq490)).other W488 (Or.inl nq490))
    have Fc493 := (((P303_14.ext E480).other W484 (Or.inl nq490)).other W488 (Or.inl nq490))
    have Fc494 := (((P303_15.ext E480).other W484 (Or.inl nq490)).other W488 (Or.inl nq490))
    have Fc495 := (((P303_16.ext E480).other W484 (Or.inl nq490)).other W488 (Or.inl nq490))
    have Fc496 := (((P303_17.ext E480).other W484 (Or.inl nq490)).other W488 (Or.inl nq490))
    have Fc497 := (((P303_18.ext E480).other W484 (Or.inl nq490)).other W488 (Or.inl nq490))
    have Fc498 := (((P303_19.ext E480).other W484 (Or.inl nq490)).other W488 (Or.inl nq490))
    have Fc499 := (((P303_20.ext E480).other W484 (Or.inl nq490)).other W488 (Or.inl nq490))
    have Fc500 := (((P303_21.ext E480).other W484 (Or.inl nq490)).other W488 (Or.inl nq490))
    have Fc501 := (((P303_22.ext E480).other W484 (Or.inl nq490)).other W488 (Or.inl nq490))
    have Fc502 := (((P303_23.ext E480).other W484 (Or.inl nq490)).other W488 (Or.inl nq490))
    have nq503 : er_119 ≠ b480 := (Nat.ne_of_lt (Nat.lt_of_lt_of_le Vr307.lt (Nat.le_of_eq g480.symm)))
    have Fc504 := (((Vr307.ext E480).other W484 nq503).other W488 nq503)
    have nq505 : ev_119 ≠ b480 := (Nat.ne_of_lt (Nat.lt_of_lt_of_le Vr308.lt (Nat.le_of_eq g480.symm)))
    have Fc506 := (((Vr308.ext E480).other W484 nq505).other W488 nq505)
    have nq507 : rh_119 ≠ b121 := (Nat.ne_of_lt (Nat.lt_of_lt_of_le P119_28.lt (Nat.le_of_eq g121.symm)))
    have nq508 : rh_119 ≠ b131 := (Nat.ne_of_lt (Nat.lt_of_lt_of_le (((P119_28.ext E121).wr W125).wr W129).lt (Nat.le_of_eq g131.symm)))
    have nq509 : b115 ≠ rh_119 := (Nat.ne_of_lt (Nat.lt_of_lt_of_le A115.lt P119_6))
    have Fc510 := ((((((((((((((((((((((P119_28.ext E121).wr W125).wr W129).ext E131).wr W135).wr W139).keep P180_0).ext E187).wr W191).ext E193).wr W197).keep P237_0).ext E244).wr W248).wr W252).ext E254).wr W258).wr W262).keep P303_0).ext E480).wr W484).wr W488)
    have Fc511 := ((((Fc297.keep P303_0).ext E480).wr W484).wr W488)
    have nq512 : rh_119 ≠ fr_119 := (ne_exa Fc510 Fc511 (by decide))
    have Fc513 := ((((Fc298.keep P303_0).ext E480).wr W484).wr W488)
    have nq514 : rh_119 ≠ er_119 := (ne_exa Fc510 Fc513 (by decide))
    have Fc515 := ((((Fc299.keep P303_0).ext E480).wr W484).wr W488)
    have nq516 : rh_119 ≠ ev_119 := (ne_exa Fc510 Fc515 (by decide))
    have Fc517 := ((((Fc300.keep P303_0).ext E480).wr W484).wr W488)
    have nq518 : rh_119 ≠ pl_119 := (ne_exa Fc510 Fc517 (by decide))
    have nq519 : rh_119 ≠ b187 := (Nat.ne_of_lt (Nat.lt_of_lt_of_le (((((((P119_28.ext E121).wr W125).wr W129).ext E131).wr W135).wr W139).keep P180_0).lt (Nat.le_of_eq g187.symm)))
    have nq520 : rh_119 ≠ b193 := (Nat.ne_of_lt (Nat.lt_of_lt_of_le (((((((((P119_28.ext E121).wr W125).wr W129).ext E131).wr W135).wr W139).keep P180_0).ext E187).wr W191).lt (Nat.le_of_eq g193.symm)))
    have nq521 : rh_119 ≠ b244 := (Nat.ne_of_lt (Nat.lt_of_lt_of_le ((((((((((((P119_28.ext E121).wr W125).wr W129).ext E131).wr W135).wr W139).keep P180_0).ext E187).wr W191).ext E193).wr W197).keep P237_0).lt (Nat.le_of_eq g244.symm)))
    have nq522 : rh_119 ≠ b254 := (Nat.ne_of_lt (Nat.lt_of_lt_of_le (((((((((((((((P119_28.ext E121).wr W125).wr W129).ext E131).wr W135).wr W139).keep P180_0).ext E187).wr W191).ext E193).wr W197).keep P237_0).ext E244).wr W248).wr W252).lt (Nat.le_of_eq g254.symm)))
    have nq523 : rh_119 ≠ b480 := (Nat.ne_of_lt (Nat.lt_of_lt_of_le (((((((((((((((((((P119_28.ext E121).wr W125).wr W129).ext E131).wr W135).wr W139).keep P180_0).ext E187).wr W191).ext E193).wr W197).keep P237_0).ext E244).wr W248).wr W252).ext E254).wr W258).wr W262).keep P303_0).lt (Nat.le_of_eq g480.symm)))
    have Fc524 := ((((((((((((((((((((((P119_17.ext E121).other W125 nq507).other W129 nq507).ext E131).other W135 nq508).other W139 nq508).keep P180_0 (ninS (Ne.symm nq509) (ninS P119_59 (ninS nq512 (ninS nq514 (ninS nq516 (ninS nq518 nin0))))))).ext E187).other W191 nq519).ext E193).other W197 nq520).keep P237_0 (ninS (Ne.symm nq509) (ninS P119_59 (ninS nq512 (ninS nq514 (ninS nq516 (ninS nq518 nin0))))))).ext E244).other W248 nq521).other W252 nq521).ext E254).other W258 nq522).other W262 nq522).keep P303_0 (ninS (Ne.symm nq509) (ninS P119_59 (ninS nq512 (ninS nq514 (ninS nq516 (ninS nq518 nin0))))))).ext E480).other W484 nq523).other W488 nq523)
    have nq525 : ri_119 ≠ b121 := (Nat.ne_of_lt (Nat.lt_of_lt_of_le P119_30.lt (Nat.le_of_eq g121.symm)))
    have nq526 : ri_119 ≠ b131 := (Nat.ne_of_lt (Nat.lt_of_lt_of_le (((P119_30.ext E121).wr W125).wr W129).lt (Nat.le_of_eq g131.symm)))
    have nq527 : b115 ≠ ri_119 := (Nat.ne_of_lt (Nat.lt_of_lt_of_le A115.lt P119_8))
    have Fc528 := ((((((((((((((((((((((P119_30.ext E121).wr W125).wr W129).ext E131).wr W135).wr W139).keep P180_0).ext E187).wr W191).ext E193).wr W197).keep P237_0).ext E244).wr W248).wr W252).ext E254).wr W258).wr W262).keep P303_0).ext E480).wr W484).wr W488)
    have Fc529 := ((((Fc296.keep P303_0).ext E480).wr W484).wr W488)
    have nq530 : ri_119 ≠ co_119 := (ne_exa Fc528 Fc529 (by decide))
    have nq531 : ri_119 ≠ fr_119 := (ne_exa Fc528 Fc511 (by decide))
    have nq532 : ri_119 ≠ er_119 := (ne_exa Fc528 Fc513 (by decide))
    have nq533 : ri_119 ≠ pl_119 := (ne_exa Fc528 Fc517 (by decide))
    have nq534 : ri_119 ≠ b187 := (Nat.ne_of_lt (Nat.lt_of_lt_of_le (((((((P119_30.ext E121).wr W125).wr W129).ext E131).wr W135).wr W139).keep P180_0).lt (Nat.le_of_eq g187.symm)))
    have nq535 : ri_119 ≠ b193 := (Nat.ne_of_lt (Nat.lt_of_lt_of_le (((((((((P119_30.ext E121).wr W125).wr W129).ext E131).wr W135).wr W139).keep P180_0).ext E187).wr W191).lt (Nat.le_of_eq g193.symm)))
    have nq536 : ri_119 ≠ b244 := (Nat.ne_of_lt (Nat.lt_of_lt_of_le ((((((((((((P119_30.ext E121).wr W125).wr W129).ext E131).wr W135).wr W139).keep P180_0).ext E187).wr W191).ext E193).wr W197).keep P237_0).lt (Nat.le_of_eq g244.symm)))
    have nq537 : ri_119 ≠ b254 := (Nat.ne_of_lt (Nat.lt_of_lt_of_le (((((((((((((((P119_30.ext E121).wr W125).wr W129).ext E131).wr W135).wr W139).keep P180_0).ext E187).wr W191).ext E193).wr W197).keep P237_0).ext E244).wr W248).wr W252).lt (Nat.le_of_eq g254.symm)))
    have nq538 : ri_119 ≠ b480 := (Nat.ne_of_lt (Nat.lt_of_lt_of_le (((((((((((((((((((P119_30.ext E121).wr W125).wr W129).ext E131).wr W135).wr W139).keep P180_0).ext E187).wr W191).ext E193).wr W197).keep P237_0).ext E244).wr W248).wr W252).ext E254).wr W258).wr W262).keep P303_0).lt (Nat.le_of_eq g480.symm)))
    have Fc539 := ((((((((((((((((((((((P119_19.ext E121).other W125 nq525).other W129 nq525).ext E131).other W135 nq526).other W139 nq526).keep P180_0 (ninS (Ne.symm nq527) (ninS nq530 (ninS nq531 (ninS nq532 (ninS P119_61 (ninS nq533 nin0))))))).ext E187).other W191 nq534).ext E193).other W197 nq535).keep P237_0 (ninS (Ne.symm nq527) (ninS nq530 (ninS nq531 (ninS nq532 (ninS P119_61 (ninS nq533 nin0))))))).ext E244).other W248 nq536).other W252 nq536).ext E254).other W258 nq537).other W262 nq537).keep P303_0 (ninS (Ne.symm nq527) (ninS nq530 (ninS nq531 (ninS nq532 (ninS P119_61 (ninS nq533 nin0))))))).ext E480).other W484 nq538).other W488 nq538)
    have nq540 : i0_119 ≠ b121 := (Nat.ne_of_lt (Nat.lt_of_lt_of_le P119_32.lt (Nat.le_of_eq g121.symm)))
    have nq541 : i0_119 ≠ b131 := (Nat.ne_of_lt (Nat.lt_of_lt_of_le (((P119_32.ext E121).wr W125).wr W129).lt (Nat.le_of_eq g131.symm)))
    have nq542 : b115 ≠ i0_119 := (Nat.ne_of_lt (Nat.lt_of_lt_of_le A115.lt P119_10))
    have Fc543 := ((((((((((((((((((((((P119_32.ext E121).wr W125).wr W129).ext E131).wr W135).wr W139).keep P180_0).ext E187).wr W191).ext E193).wr W197).keep P237_0).ext E244).wr W248).wr W252).ext E254).wr W258).wr W262).keep P303_0).ext E480).wr W484).wr W488)
    have nq544 : i0_119 ≠ fr_119 := (ne_exa Fc543 Fc511 (by decide))
    have nq545 : i0_119 ≠ er_119 := (ne_exa Fc543 Fc513 (by decide))
    have nq546 : i0_119 ≠ ev_119 := (ne_exa Fc543 Fc515 (by decide))
    have nq547 : i0_119 ≠ pl_119 := (ne_exa Fc543 Fc517 (by decide))
    have nq548 : i0_119 ≠ b187 := (Nat.ne_of_lt (Nat.lt_of_lt_of_le (((((((P119_32.ext E121).wr W125).wr W129).ext E131).wr W135).wr W139).keep P180_0).lt (Nat.le_of_eq g187.symm)))
    have nq549 : i0_119 ≠ b193 := (Nat.ne_of_lt (Nat.lt_of_lt_of_le (((((((((P119_32.ext E121).wr W125).wr W129).ext E131).wr W135).wr W139).keep P180_0).ext E187).wr W191).lt (Nat.le_of_eq g193.symm)))
    have nq550 : i0_119 ≠ b244 := (Nat.ne_of_lt (Nat.lt_of_lt_of_le ((((((((((((P119_32.ext E121).wr W125).wr W129).ext E131).wr W135).wr W139).keep P180_0).ext E187).wr W191).ext E193).wr W197).keep P237_0).lt (Nat.le_of_eq g244.symm)))
    have nq551 : i0_119 ≠ b254 := (Nat.ne_of_lt (Nat.lt_of_lt_of_le (((((((((((((((P119_32.ext E121).wr W125).wr W129).ext E131).wr W135).wr W139).keep P180_0).ext E187).wr W191).ext E193).wr W197).keep P237_0).ext E244).wr W248).wr W252).lt (Nat.le_of_eq g254.symm)))
    have nq552 : i0_119 ≠ b480 := (Nat.ne_of_lt (Nat.lt_of_lt_of_le (((((((((((((((((((P119_32.ext E121).wr W125).wr W129).ext E131).wr W135).wr W139).keep P180_0).ext E187).wr W191).ext E193).wr W197).keep P237_0).ext E244).wr W248).wr W252).ext E254).wr W258).wr W262).keep P303_0).lt (Nat.le_of_eq g480.symm)))
    have Fc553 := ((((((((((((((((((((((P119_20.ext E121).other W125 nq540).other W129 nq540).ext E131).other W135 nq541).other W139 nq541).keep P180_0 (ninS (Ne.symm nq542) (ninS (Ne.symm P119_56) (ninS nq544 (ninS nq545 (ninS nq546 (ninS nq547 nin0))))))).ext E187).other W191 nq548).ext E193).other W197 nq549).keep P237_0 (ninS (Ne.symm nq542) (ninS (Ne.symm P119_56) (ninS nq544 (ninS nq545 (ninS nq546 (ninS nq547 nin0))))))).ext E244).other W248 nq550).other W252 nq550).ext E254).other W258 nq551).other W262 nq551).keep P303_0 (ninS (Ne.symm nq542) (ninS (Ne.symm P119_56) (ninS nq544 (ninS nq545 (ninS nq546 (ninS nq547 nin0))))))).ext E480).other W484 nq552).other W488 nq552)
    have nq554 : i1_119 ≠ b121 := (Nat.ne_of_lt (Nat.lt_of_lt_of_le P119_33.lt (Nat.le_of_eq g121.symm)))
    have nq555 : i1_119 ≠ b131 := (Nat.ne_of_lt (Nat.lt_of_lt_of_le (((P119_33.ext E121).wr W125).wr W129).lt (Nat.le_of_eq g131.symm)))
    have nq556 : b115 ≠ i1_119 := (Nat.ne_of_lt (Nat.lt_of_lt_of_le A115.lt P119_11))
    have Fc557 := ((((((((((((((((((((((P119_33.ext E121).wr W125).wr W129).ext E131).wr W135).wr W139).keep P180_0).ext E187).wr W191).ext E193).wr W197).keep P237_0).ext E244).wr W248).wr W252).ext E254).wr W258).wr W262).keep P303_0).ext E480).wr W484).wr W488)
    have nq558 : i1_119 ≠ fr_119 := (ne_exa Fc557 Fc511 (by decide))
    have nq559 : i1_119 ≠ er_119 := (ne_exa Fc557 Fc513 (by decide))
    have nq560 : i1_119 ≠ ev_119 := (ne_exa Fc557 Fc515 (by decide))
    have nq561 : i1_119 ≠ pl_119 := (ne_exa Fc557 Fc517 (by decide))
    have nq562 : i1_119 ≠ b187 := (Nat.ne_of_lt (Nat.lt_of_lt_of_le (((((((P119_33.ext E121).wr W125).wr W129).ext E131).wr W135).wr W139).keep P180_0).lt (Nat.le_of_eq g187.symm)))
    have nq563 : i1_119 ≠ b193 := (Nat.ne_of_lt (Nat.lt_of_lt_of_le (((((((((P119_33.ext E121).wr W125).wr W129).ext E131).wr W135).wr W139).keep P180_0).ext E187).wr W191).lt (Nat.le_of_eq g193.symm)))
    have nq564 : i1_119 ≠ b244 := (Nat.ne_of_lt (Nat.lt_of_lt_of_le ((((((((((((P119_33.ext E121).wr W125).wr W129).ext E131).wr W135).wr W139).keep P180_0).ext E187).wr W191).ext E193).wr W197).keep P237_0).lt (Nat.le_of_eq g244.symm)))
    have nq565 : i1_119 ≠ b254 := (Nat.ne_of_lt (Nat.lt_of_lt_of_le (((((((((((((((P119_33.ext E121).wr W125).wr W129).ext E131).wr W135).wr W139).keep P180_0).ext E187).wr W191).ext E193).wr W197).keep P237_0).ext E244).wr W248).wr W252).lt (Nat.le_of_eq g254.symm)))
    have nq566 : i1_119 ≠ b480 := (Nat.ne_of_lt (Nat.lt_of_lt_of_le (((((((((((((((((((P119_33.ext E121).wr W125).wr W129).ext E131).wr W135).wr W139).keep P180_0).ext E187).wr W191).ext E193).wr W197).keep P237_0).ext E244).wr W248).wr W252).ext E254).wr W258).wr W262).keep P303_0).lt (Nat.le_of_eq g480.symm)))
    have Fc567 := ((((((((((((((((((((((P119_21.ext E121).other W125 nq554).other W129 nq554).ext E131).other W135 nq555).other W139 nq555).keep P180_0 (ninS (Ne.symm nq556) (ninS (Ne.symm P119_57) (ninS nq558 (ninS nq559 (ninS nq560 (ninS nq561 nin0))))))).ext E187).other W191 nq562).ext E193).other W197 nq563).keep P237_0 (ninS (Ne.symm nq556) (ninS (Ne.symm P119_57) (ninS nq558 (ninS nq559 (ninS nq560 (ninS nq561 nin0))))))).ext E244).other W248 nq564).other W252 nq564).ext E254).other W258 nq565).other W262 nq565).keep P303_0 (ninS (Ne.symm nq556) (ninS (Ne.symm P119_57) (ninS nq558 (ninS nq559 (ninS nq560 (ninS nq561 nin0))))))).ext E480).other W484 nq566).other W488 nq566)
    have nq568 : va_119 ≠ b121 := (Nat.ne_of_lt (Nat.lt_of_lt_of_le P119_31.lt (Nat.le_of_eq g121.symm)))
    have nq569 : va_119 ≠ b131 := (Nat.ne_of_lt (Nat.lt_of_lt_of_le (((P119_31.ext E121).wr W125).wr W129).lt (Nat.le_of_eq g131.symm)))
    have nq570 : b115 ≠ va_119 := (Nat.ne_of_lt (Nat.lt_of_lt_of_le A115.lt P119_9))
    have Fc571 := ((((((((((((((((((((((P119_31.ext E121).wr W125).wr W129).ext E131).wr W135).wr W139).keep P180_0).ext E187).wr W191).ext E193).wr W197).keep P237_0).ext E244).wr W248).wr W252).ext E254).wr W258).wr W262).keep P303_0).ext E480).wr W484).wr W488)
    have nq572 : va_119 ≠ fr_119 := (ne_exa Fc571 Fc511 (by decide))
    have nq573 : va_119 ≠ er_119 := (ne_exa Fc571 Fc513 (by decide))
    have nq574 : va_119 ≠ ev_119 := (ne_exa Fc571 Fc515 (by decide))
    have nq575 : va_119 ≠ pl_119 := (ne_exa Fc571 Fc517 (by decide))
    have nq576 : va_119 ≠ b187 := (Nat.ne_of_lt (Nat.lt_of_lt_of_le (((((((P119_31.ext E121).wr W125).wr W129).ext E131).wr W135).wr W139).keep P180_0).lt (Nat.le_of_eq g187.symm)))
    have nq577 : va_119 ≠ b193 := (Nat.ne_of_lt (Nat.lt_of_lt_of_le (((((((((P119_31.ext E121).wr W125).wr W129).ext E131).wr W135).wr W139).keep P180_0).ext E187).wr W191).lt (Nat.le_of_eq g193.symm)))
    have nq578 : va_119 ≠ b244 := (Nat.ne_of_lt (Nat.lt_of_lt_of_le ((((((((((((P119_31.ext E121).wr W125).wr W129).ext E131).wr W135).wr W139).keep P180_0).ext E187).wr W191).ext E193).wr W197).keep P237_0).lt (Nat.le_of_eq g244.symm)))
    have nq579 : va_119 ≠ b254 := (Nat.ne_of_lt (Nat.lt_of_lt_of_le (((((((((((((((P119_31.ext E121).wr W125).wr W129).ext E131).wr W135).wr W139).keep P180_0).ext E187).wr W191).ext E193).wr W197).keep P237_0).ext E244).wr W248).wr W252).lt (Nat.le_of_eq g254.symm)))
    have nq580 : va_119 ≠ b480 := (Nat.ne_of_lt (Nat.lt_of_lt_of_le (((((((((((((((((((P119_31.ext E121).wr W125).wr W129).ext E131).wr W135).wr W139).keep P180_0).ext E187).wr W191).ext E193).wr W197).keep P237_0).ext E244).wr W248).wr W252).ext E254).wr W258).wr W262).keep P303_0).lt (Nat.le_of_eq g480.symm)))
    have Fc581 := ((((((((((((((((((((((P119_22.ext E121).other W125 nq568).other W129 nq568).ext E131).other W135 nq569).other W139 nq569).keep P180_0 (ninS (Ne.symm nq570) (ninS (Ne.symm P119_58) (ninS nq572 (ninS nq573 (ninS nq574 (ninS nq575 nin0))))))).ext E187).other W191 nq576).ext E193).other W197 nq577).keep P237_0 (ninS (Ne.symm nq570) (ninS (Ne.symm P119_58) (ninS nq572 (ninS nq573 (ninS nq574 (ninS nq575 nin0))))))).ext E244).other W248 nq578).other W252 nq578).ext E254).other W258 nq579).other W262 nq579).keep P303_0 (ninS (Ne.symm nq570) (ninS (Ne.symm P119_58) (ninS nq572 (ninS nq573 (ninS nq574 (ninS nq575 nin0))))))).ext E480).other W484 nq580).other W488 nq580)
    have nq582 : xa_237 ≠ b244 := (Nat.ne_of_lt (Nat.lt_of_lt_of_le P237_10.lt (Nat.le_of_eq g244.symm)))
    have nq583 : xa_237 ≠ b254 := (Nat.ne_of_lt (Nat.lt_of_lt_of_le (((P237_10.ext E244).wr W248).wr W252).lt (Nat.le_of_eq g254.symm)))
    have nq584 : b115 ≠ xa_237 := (Nat.ne_of_lt (Nat.lt_of_lt_of_le Fc213.lt P237_1))
    have nq585 : co_119 ≠ xa_237 := (Nat.ne_of_lt (Nat.lt_of_lt_of_le Fc231.lt P237_1))
    have nq586 : fr_119 ≠ xa_237 := (Nat.ne_of_lt (Nat.lt_of_lt_of_le Fc232.lt P237_1))
    have nq587 : er_119 ≠ xa_237 := (Nat.ne_of_lt (Nat.lt_of_lt_of_le Fc233.lt P237_1))
    have nq588 : ev_119 ≠ xa_237 := (Nat.ne_of_lt (Nat.lt_of_lt_of_le Fc234.lt P237_1))
    have nq589 : pl_119 ≠ xa_237 := (Nat.ne_of_lt (Nat.lt_of_lt_of_le Fc235.lt P237_1))
    have nq590 : xa_237 ≠ b480 := (Nat.ne_of_lt (Nat.lt_of_lt_of_le (((((((P237_10.ext E244).wr W248).wr W252).ext E254).wr W258).wr W262).keep P303_0).lt (Nat.le_of_eq g480.symm)))
    have Fc591 := ((((((((((P237_8.ext E244).other W248 nq582).other W252 nq582).ext E254).other W258 nq583).other W262 nq583).keep P303_0 (ninS (Ne.symm nq584) (ninS (Ne.symm nq585) (ninS (Ne.symm nq586) (ninS (Ne.symm nq587) (ninS (Ne.symm nq588) (ninS (Ne.symm nq589) nin0))))))).ext E480).other W484 nq590).other W488 nq590)
    have nq592 : xa_303 ≠ b480 := (Nat.ne_of_lt (Nat.lt_of_lt_of_le P303_10.lt (Nat.le_of_eq g480.symm)))
    have Fc593 := (((P303_8.ext E480).other W484 nq592).other W488 nq592)
    have nq594 : xb_237 ≠ b244 := (Nat.ne_of_lt (Nat.lt_of_lt_of_le P237_11.lt (Nat.le_of_eq g244.symm)))
    have nq595 : xb_237 ≠ b254 := (Nat.ne_of_lt (Nat.lt_of_lt_of_le (((P237_11.ext E244).wr W248).wr W252).lt (Nat.le_of_eq g254.symm)))
    have nq596 : b115 ≠ xb_237 := (Nat.ne_of_lt (Nat.lt_of_lt_of_le Fc213.lt P237_2))
    have nq597 : co_119 ≠ xb_237 := (Nat.ne_of_lt (Nat.lt_of_lt_of_le Fc231.lt P237_2))
    have nq598 : fr_119 ≠ xb_237 := (Nat.ne_of_lt (Nat.lt_of_lt_of_le Fc232.lt P237_2))
    have nq599 : er_119 ≠ xb_237 := (Nat.ne_of_lt (Nat.lt_of_lt_of_le Fc233.lt P237_2))
    have nq600 : ev_119 ≠ xb_237 := (Nat.ne_of_lt (Nat.lt_of_lt_of_le Fc234.lt P237_2))
    have nq601 : pl_119 ≠ xb_237 := (Nat.ne_of_lt (Nat.lt_of_lt_of_le Fc235.lt P237_2))
    have nq602 : xb_237 ≠ b480 := (Nat.ne_of_lt (Nat.lt_of_lt_of_le (((((((P237_11.ext E244).wr W248).wr W252).ext E254).wr W258).wr W262).keep P303_0).lt (Nat.le_of_eq g480.symm)))
    have Fc603 := ((((((((((P237_9.ext E244).other W248 nq594).other W252 nq594).ext E254).other W258 nq595).other W262 nq595).keep P303_0 (ninS (Ne.symm nq596) (ninS (Ne.symm nq597) (ninS (Ne.symm nq598) (ninS (Ne.symm nq599) (ninS (Ne.symm nq600) (ninS (Ne.symm nq601) nin0))))))).ext E480).other W484 nq602).other W488 nq602)
    have nq604 : xb_303 ≠ b480 := (Nat.ne_of_lt (Nat.lt_of_lt_of_le P303_11.lt (Nat.le_of_eq g480.symm)))
    have Fc605 := (((P303_9.ext E480).other W484 nq604).other W488 nq604)
    have Fc606 := (((P303_24.ext E480).wr W484).wr W488)
    have Fc607 := ((((((((((((((((((((((P119_29.ext E121).wr W125).wr W129).ext E131).wr W135).wr W139).keep P180_0).ext E187).wr W191).ext E193).wr W197).keep P237_0).ext E244).wr W248).wr W252).ext E254).wr W258).wr W262).keep P303_0).ext E480).wr W484).wr W488)
    have Fc608 := ((((((((((P237_10.ext E244).wr W248).wr W252).ext E254).wr W258).wr W262).keep P303_0).ext E480).wr W484).wr W488)
    have Fc609 := (((P303_10.ext E480).wr W484).wr W488)
    have Fc610 := ((((((((((P237_11.ext E244).wr W248).wr W252).ext E254).wr W258).wr W262).keep P303_0).ext E480).wr W484).wr W488)
    have Fc611 := (((P303_11.ext E480).wr W484).wr W488)
    have nq612 : i0_119 ≠ xb_237 := (Nat.ne_of_lt (Nat.lt_of_lt_of_le (((((((((((P119_32.ext E121).wr W125).wr W129).ext E131).wr W135).wr W139).keep P180_0).ext E187).wr W191).ext E193).wr W197).lt P237_2))
    have nq613 : i1_119 ≠ xb_237 := (Nat.ne_of_lt (Nat.lt_of_lt_of_le (((((((((((P119_33.ext E121).wr W125).wr W129).ext E131).wr W135).wr W139).keep P180_0).ext E187).wr W191).ext E193).wr W197).lt P237_2))
    have nq614 : i0_119 ≠ xb_303 := (Nat.ne_of_lt (Nat.lt_of_lt_of_le ((((((((((((((((((P119_32.ext E121).wr W125).wr W129).ext E131).wr W135).wr W139).keep P180_0).ext E187).wr W191).ext E193).wr W197).keep P237_0).ext E244).wr W248).wr W252).ext E254).wr W258).wr W262).lt P303_2))
    have nq615 : i1_119 ≠ xb_303 := (Nat.ne_of_lt (Nat.lt_of_lt_of_le ((((((((((((((((((P119_33.ext E121).wr W125).wr W129).ext E131).wr W135).wr W139).keep P180_0).ext E187).wr W191).ext E193).wr W197).keep P237_0).ext E244).wr W248).wr W252).ext E254).wr W258).wr W262).lt P303_2))
    have nq616 : ba_119 ≠ b121 := (Nat.ne_of_lt (Nat.lt_of_lt_of_le P119_29.lt (Nat.le_of_eq g121.symm)))
    have nq617 : ba_119 ≠ b131 := (Nat.ne_of_lt (Nat.lt_of_lt_of_le (((P119_29.ext E121).wr W125).wr W129).lt (Nat.le_of_eq g131.symm)))
    have nq618 : b115 ≠ ba_119 := (Nat.ne_of_lt (Nat.lt_of_lt_of_le A115.lt P119_7))
    have nq619 : ba_119 ≠ co_119 := (ne_exa Fc607 Fc529 (by decide))
    have nq620 : ba_119 ≠ fr_119 := (ne_exa Fc607 Fc511 (by decide))
    have nq621 : ba_119 ≠ er_119 := (ne_exa Fc607 Fc513 (by decide))
    have nq622 : ba_119 ≠ ev_119 := (ne_exa Fc607 Fc515 (by decide))
    have nq623 : ba_119 ≠ b187 := (Nat.ne_of_lt (Nat.lt_of_lt_of_le (((((((P119_29.ext E121).wr W125).wr W129).ext E131).wr W135).wr W139).keep P180_0).lt (Nat.le_of_eq g187.symm)))
    have nq624 : ba_119 ≠ b193 := (Nat.ne_of_lt (Nat.lt_of_lt_of_le (((((((((P119_29.ext E121).wr W125).wr W129).ext E131).wr W135).wr W139).keep P180_0).ext E187).wr W191).lt (Nat.le_of_eq g193.symm)))
    have nq625 : ba_119 ≠ b244 := (Nat.ne_of_lt (Nat.lt_of_lt_of_le ((((((((((((P119_29.ext E121).wr W125).wr W129).ext E131).wr W135).wr W139).keep P180_0).ext E187).wr W191).ext E193).wr W197).keep P237_0).lt (Nat.le_of_eq g244.symm)))
    have nq626 : ba_119 ≠ b254 := (Nat.ne_of_lt (Nat.lt_of_lt_of_le (((((((((((((((P119_29.ext E121).wr W125).wr W129).ext E131).wr W135).wr W139).keep P180_0).ext E187).wr W191).ext E193).wr W197).keep P237_0).ext E244).wr W248).wr W252).lt (Nat.le_of_eq g254.symm)))
    have nq627 : ba_119 ≠ b480 := (Nat.ne_of_lt (Nat.lt_of_lt_of_le (((((((((((((((((((P119_29.ext E121).wr W125).wr W129).ext E131).wr W135).wr W139).keep P180_0).ext E187).wr W191).ext E193).wr W197).keep P237_0).ext E244).wr W248).wr W252).ext E254).wr W258).wr W262).keep P303_0).lt (Nat.le_of_eq g480.symm)))
    have Fc628 := ((((((((((((((((((((((P119_18.ext E121).other W125 nq616).other W129 nq616).ext E131).other W135 nq617).other W139 nq617).keep P180_0 (ninS (Ne.symm nq618) (ninS nq619 (ninS nq620 (ninS nq621 (ninS nq622 (ninS P119_60 nin0))))))).ext E187).other W191 nq623).ext E193).other W197 nq624).keep P237_0 (ninS (Ne.symm nq618) (ninS nq619 (ninS nq620 (ninS nq621 (ninS nq622 (ninS P119_60 nin0))))))).ext E244).other W248 nq625).other W252 nq625).ext E254).other W258 nq626).other W262 nq626).keep P303_0 (ninS (Ne.symm nq618) (ninS nq619 (ninS nq620 (ninS nq621 (ninS nq622 (ninS P119_60 nin0))))))).ext E480).other W484 nq627).other W488 nq627)
    have nq629 : pl_119 ≠ b480 := (Nat.ne_of_lt (Nat.lt_of_lt_of_le Vr309.lt (Nat.le_of_eq g480.symm)))
    have Fc630 := (((Vr309.ext E480).other W484 nq629).other W488 nq629)
    have nq631 : fr_119 ≠ b480 := (Nat.ne_of_lt (Nat.lt_of_lt_of_le Vr306.lt (Nat.le_of_eq g480.symm)))
    have Fc632 := (((Vr306.ext E480).other W484 nq631).other W488 nq631)
    have Fc633 := ((Ea480.wr W484).wr W488)
    have nq634 : ba_119 ≠ xa_237 := (Nat.ne_of_lt (Nat.lt_of_lt_of_le (((((((((((P119_29.ext E121).wr W125).wr W129).ext E131).wr W135).wr W139).keep P180_0).ext E187).wr W191).ext E193).wr W197).lt P237_1))
    have nq635 : ba_119 ≠ xa_303 := (Nat.ne_of_lt (Nat.lt_of_lt_of_le ((((((((((((((((((P119_29.ext E121).wr W125).wr W129).ext E131).wr W135).wr W139).keep P180_0).ext E187).wr W191).ext E193).wr W197).keep P237_0).ext E244).wr W248).wr W252).ext E254).wr W258).wr W262).lt P303_1))
    have nq636 : pl_119 ≠ xa_303 := (Nat.ne_of_lt (Nat.lt_of_lt_of_le Fc300.lt P303_1))
    obtain ⟨_, T637, L637, X637, hQ637, st637⟩ := own_cV X488 hx hZ hw hown (b := b115) (W := 0) (rmm5 l Z a0 hw [] b115 b480 co_119 fr_119 er_119 ev_119 pl_119 rh_119 ba_119 ri_119 va_119 i0_119 i1_119 xa_237 xa_303 xb_237 xb_303 ker_119 kev_119 krh_119 kba_119 kri_119 ki_119 kva_119 k187 k244 k193 k254 (.ref xa_180) (.ref xb_180) (.int ((((0 : Int32) + (1 : Int32)) + (1 : Int32)) + (1 : Int32))) d0 d1 ee_103 (own_s pp gg d1) (own_s pp d1 gg) (own_s pp iC iD) (own_s pp iD iC) (own_s pp iA iB) (own_s pp iB iA) pp pq (2 : Int32) (1 : Int32) k480 kpl_119 kfr_119 [(.int (-1)), (.int (-1)), (.int (-1))] h488 n0 ZZ489 Fc491 Fc492 Fc493 Fc494 Fc495 Fc496 Fc497 Fc498 Fc499 Fc500 Fc501 Fc502 Fc504 Fc506 Fc524 Fc539 Fc553 Fc567 Fc581 Fc591 Fc593 Fc603 Fc605 Fc606 Fc513 Fc515 Fc510 Fc607 Fc528 Fc543 Fc557 Fc571 Fc608 Fc609 Fc610 Fc611 P119_36 g_b115 g_ri_119 g_i0_119 g_i1_119 g_va_119 P119_50 (Ne.symm nq612) (Ne.symm nq613) (Ne.symm nq614) (Ne.symm nq615) P119_51 P119_52 P119_53 P119_54 P119_55 (own_nn8 d8) (own_nn8 d8') (own_nn9 he9) hpq2 (by decide) hH Fc628 Va488 Fc630 Fc632 Fc517 Fc511 Fc633 g_ba_119 g_pl_119 P119_60 (Ne.symm nq627) (Ne.symm nq629) nq634 nq635 nq589 nq636 (⟨by decide, by decide⟩) (⟨by decide, by decide⟩) rfl rfl (Nat.le_of_ble_eq_true rfl) (Nat.le_of_ble_eq_true rfl)) (by decide) (by decide) (by decide) 62 rfl 63 rfl 65 rfl 64 rfl 66 rfl 7 rfl e488 Fc606 (g := (mkF m 217 #[oI p0, oI p1, oI p2, oI p3, oI pp, oI qq, oD d0, oV, oD d1, oV, oD ee_103, oV, oR b105, oR b115, oU, oU, oU, oU] [(.ref b480), (.ref b115)])) rfl (by rw [hml]; rfl) (argsL := [(.ref b480)]) (rest := []) (lenOf pd9 rfl) rfl (Nat.le_of_eq rfl) (hb hby at_217) rfl (cN := 29) rfl (by decide) (sN := 136) rfl (by decide)
    obtain ⟨j0_637, j1_637, rfl, Nq637, P637_0, P637_1, P637_2, P637_3, P637_4, P637_5, P637_6, P637_7, P637_8, P637_9, P637_10, P637_11, P637_12, P637_13, P637_14, P637_15, P637_16, P637_17, P637_18, P637_19⟩ := hQ637
    have N637 := Fr.app N488 Nq637
    have ZZ638 : n0 ≤ T637.heap.size := Nat.le_trans ZZ489 P637_0.1
    obtain ⟨hM0, hM1, hY0, hY1⟩ := own_law1 p0 p1 hp d8 d8' he9 hDA hDB hDC hDD
    have nq639 : co_119 ≠ b480 := (Nat.ne_of_lt (Nat.lt_of_lt_of_le Vr305.lt (Nat.le_of_eq g480.symm)))
    have nq640 : b115 ≠ co_119 := (Nat.ne_of_lt (Nat.lt_of_lt_of_le A115.lt P119_1))
    have nq641 : co_119 ≠ pl_119 := (ne_exa (Fc529.keep P637_0) (Fc517.keep P637_0) (by decide))
    have Fc642 := ((((Vr305.ext E480).other W484 nq639).other W488 nq639).keep P637_0 (ninS (Ne.symm nq640) (ninS (Ne.symm nq619) (ninS nq641 (ninS (Ne.symm nq530) (ninS P119_56 (ninS P119_57 (ninS P119_58 nin0))))))))
    obtain ⟨_, T643, L643, X643, hQ643, st643⟩ := own_cV X637 hx hZ hw hown (b := b115) (W := 0) (rmm12 l Z a0 hw [] b115 co_119 ba_119 ri_119 j0_637 j1_637 kco_119 kba_119 kri_119 ki_119 (2 : Int32) (1 : Int32) [(.double (FP.i2d p2)), (.double (FP.i2d p0)), (.double (FP.i2d p1))] (FP.i2d p1) (FP.i2d p0) (own_s pp iC iD) (own_s pp iD iC) (own_s pp iA iB) (own_s pp iB iA) T637.heap n0 ZZ638 P637_6 P637_1 P637_8 P637_9 P637_12 Fc642 P637_19 P637_13 P637_14 P637_15 (Fc528.keep P637_0) (⟨by decide, by decide⟩) (⟨by decide, by decide⟩) rfl rfl hM0 hM1) (by decide) (by decide) (by decide) 94 rfl 95 rfl 97 rfl 96 rfl 98 rfl 7 rfl rfl P637_12 (g := (mkF m 224 #[oI p0, oI p1, oI p2, oI p3, oI pp, oI qq, oD d0, oV, oD d1, oV, oD ee_103, oV, oR b105, oR b115, oI 1, oU, oU, oU] [(.ref b115)])) rfl (by rw [hml]; rfl) (argsL := []) (rest := []) (lenOf pd10 rfl) rfl (Nat.le_of_eq rfl) (hb hby at_224) rfl (cN := 30) rfl (by decide) (sN := 138) rfl (by decide)
    obtain ⟨y_643, ky_643, rfl, Nq643, P643_0, P643_1, P643_2, P643_3⟩ := hQ643
    have N643 := Fr.app N637 Nq643
    have g_y_643 : n0 ≤ y_643 := Nat.le_trans ZZ638 P643_1
    have ZZ644 : n0 ≤ T643.heap.size := Nat.le_trans ZZ638 P643_0.1
    obtain ⟨cl645, Ar645, qk645, Sz645, Nz645, Hh645, Gg645⟩ := id P643_2
    have hin646 : ¬ (pp < 0 ∨ cl645.slots.size ≤ (pp).toNatClampNeg) := inb_of Sz645 (own_in hp)
    have hat646 : cl645.slots[(pp).toNatClampNeg]? = some (.double (own_s pp (own_ax (FP.i2d p0) (own_ax (FP.i2d p1) (0 : UInt64) (own_s pp iC iD)) (own_s pp iA iB)) (own_ax (FP.i2d p0) (own_ax (FP.i2d p1) (0 : UInt64) (own_s pp iD iC)) (own_s pp iB iA)))) := Has.at Hh645 hin646 (own_gd hp)
    have hin647 : ¬ (pp < 0 ∨ cl645.slots.size ≤ (pp).toNatClampNeg) := inb_of Sz645 (own_in hp)
    have hat647 : cl645.slots[(pp).toNatClampNeg]? = some (.double (own_s pp (own_ax (FP.i2d p0) (own_ax (FP.i2d p1) (0 : UInt64) (own_s pp iC iD)) (own_s pp iA iB)) (own_ax (FP.i2d p0) (own_ax (FP.i2d p1) (0 : UInt64) (own_s pp iD iC)) (own_s pp iB iA)))) := Has.at Hh645 hin647 (own_gd hp)
    have hin648 : ¬ (pq < 0 ∨ cl645.slots.size ≤ (pq).toNatClampNeg) := inb_of Sz645 (own_in (own_pq01 hpq2))
    have hat648 : cl645.slots[(pq).toNatClampNeg]? = some (.double (own_s pp (own_ax (FP.i2d p0) (own_ax (FP.i2d p1) (0 : UInt64) (own_s pp iD iC)) (own_s pp iB iA)) (own_ax (FP.i2d p0) (own_ax (FP.i2d p1) (0 : UInt64) (own_s pp iC iD)) (own_s pp iA iB)))) := Has.at Hh645 hin648 (own_gd' hpq2)
    obtain ⟨fs, hr, hrun, hended, hW, hsame⟩ := X643.leave (v := some (.int 1)) (fun h => by rw [Bd.returns] at h; cases h)
    refine ⟨_, _, pre0 _ (pre310 _ ?_), hrun, hended, _, _, rfl, ?_, ⟨_, rfl⟩, hW, hsame.mono (by decide) (by decide)⟩
    · show own_S p e below T303 m 182 #[oI p0, oI p1, oI p2, oI p3, oI pp, oI qq, oD d0, oV, oD d1, oV, oD ee_103, oV, oR b105, oR b115, oU, oU, oU, oU] [(.int qq)] _
      refine XS.ifYes X303.here hx rfl (pc0 := 182) (pc' := 204) rfl (hb hby at_182) rfl ((if0 _ _).trans (feq (hq : ¬ (qq = (0 : Int32)))).2) (by decide) (by decide) ?_
      refine XS.aload X303.here hx rfl (hb hby at_204) rfl rfl ?_
      refine XS.iconst X303.here hx rfl (hb hby at_206) ?_
      show own_S p e below T303 m 207 _ [(.int 2), (.ref b115)] _
      refine st480 _ ?_
      show own_S p e below T480 m 209 _ [(.ref b480), (.ref b115)] _
      refine XS.dup X480.here hx rfl (hb hby at_209) rfl rfl ?_
      refine XS.iconst X480.here hx rfl (hb hby at_210) ?_
      refine XS.iconst X480.here hx rfl (hb hby at_211) ?_
      show own_S p e below T480 m 212 #[oI p0, oI p1, oI p2, oI p3, oI pp, oI qq, oD d0, oV, oD d1, oV, oD ee_103, oV, oR b105, oR b115, oU, oU, oU, oU] [(.int 2), (.int 0), (.ref b480), (.ref b480), (.ref b115)] _
      refine st484 _ ?_
      show own_S p e below T484 m 213 _ [(.ref b480), (.ref b115)] _
      refine XS.dup X484.here hx rfl (hb hby at_213) rfl rfl ?_
      refine XS.iconst X484.here hx rfl (hb hby at_214) ?_
      refine XS.iconst X484.here hx rfl (hb hby at_215) ?_
      show own_S p e below T484 m 216 _ [(.int 1), (.int 1), (.ref b480), (.ref b480), (.ref b115)] _
      refine st488 _ ?_
      show own_S p e below T488 m 217 _ [(.ref b480), (.ref b115)] _
      refine st637.trans ?_
      show own_S p e below T637 m 220 _ [(.int 1)] _
      refine XS.istore X637.here hx rfl (hb hby at_220) rfl (l' := #[oI p0, oI p1, oI p2, oI p3, oI pp, oI qq, oD d0, oV, oD d1, oV, oD ee_103, oV, oR b105, oR b115, oI 1, oU, oU, oU]) rfl ?_
      refine XS.aload X637.here hx rfl (hb hby at_222) rfl rfl ?_
      show own_S p e below T637 m 224 _ [(.ref b115)] _
      refine st643.trans ?_
      show own_S p e below T643 m 227 _ [(.ref y_643)] _
      refine XS.astore X643.here hx rfl (hb hby at_227) rfl rfl (l' := #[oI p0, oI p1, oI p2, oI p3, oI pp, oI qq, oD d0, oV, oD d1, oV, oD ee_103, oV, oR b105, oR b115, oI 1, oR y_643, oU, oU]) rfl ?_
      refine XS.iload X643.here hx rfl (hb hby at_229) rfl ?_
      refine XS.ifNo X643.here hx rfl (hb hby at_231) rfl ((if0 _ _).trans (feq (by decide : ¬ ((1 : Int32) = (0 : Int32)))).1) ?_
      refine XS.aload X643.here hx rfl (hb hby at_234) rfl rfl ?_
      show own_S p e below T643 m 236 _ [(.ref y_643)] _
      refine X643.arraylength hx Ar645.1 (State.isArrayOf_alike hZ.alike Ar645.2.1) (g := (mkF m 236 #[oI p0, oI p1, oI p2, oI p3, oI pp, oI qq, oD d0, oV, oD d1, oV, oD ee_103, oV, oR b105, oR b115, oI 1, oR y_643, oU, oU] [(.ref y_643)])) rfl rfl (hb hby at_236) _ ?_
      rw [len_of Sz645 Nz645]
      show own_S p e below T643 m 237 _ [(.int 2)] _
      refine XS.iconst X643.here hx rfl (hb hby at_237) ?_
      refine XS.icmpYes X643.here hx rfl (pc0 := 238) (pc' := 243) rfl (hb hby at_238) rfl (teq (by decide : (2 : Int32) = (2 : Int32))).1 (by decide) (by decide) ?_
      refine XS.aload X643.here hx rfl (hb hby at_243) rfl rfl ?_
      refine XS.iload X643.here hx rfl (hb hby at_245) rfl ?_
      show own_S p e below T643 m 247 _ [(.int pp), (.ref y_643)] _
      refine X643.daload hx (j := pp) (v := (.double (own_s pp (own_ax (FP.i2d p0) (own_ax (FP.i2d p1) (0 : UInt64) (own_s pp iC iD)) (own_s pp iA iB)) (own_ax (FP.i2d p0) (own_ax (FP.i2d p1) (0 : UInt64) (own_s pp iD iC)) (own_s pp iB iA))))) Ar645.1 (State.isArrayOf_alike hZ.alike Ar645.2.1) Ar645.2.2 hin646 hat646 (g := (mkF m 247 #[oI p0, oI p1, oI p2, oI p3, oI pp, oI qq, oD d0, oV, oD d1, oV, oD ee_103, oV, oR b105, oR b115, oI 1, oR y_643, oU, oU] [(.int pp), (.ref y_643)])) rfl rfl (hb hby at_247) _ ?_
      show own_S p e below T643 m 248 _ [(.double (own_s pp (own_ax (FP.i2d p0) (own_ax (FP.i2d p1) (0 : UInt64) (own_s pp iC iD)) (own_s pp iA iB)) (own_ax (FP.i2d p0) (own_ax (FP.i2d p1) (0 : UInt64) (own_s pp iD iC)) (own_s pp iB iA))))] _
      refine XS.dload X643.here hx rfl (hb hby at_248) rfl ?_
      show own_S p e below T643 m 250 _ [(.double d0), (.double (own_s pp (own_ax (FP.i2d p0) (own_ax (FP.i2d p1) (0 : UInt64) (own_s pp iC iD)) (own_s pp iA iB)) (own_ax (FP.i2d p0) (own_ax (FP.i2d p1) (0 : UInt64) (own_s pp iD iC)) (own_s pp iB iA))))] _
      refine XS.dmulS X643.here hx rfl (v := (FP.dmul (own_s pp (own_ax (FP.i2d p0) (own_ax (FP.i2d p1) (0 : UInt64) (own_s pp iC iD)) (own_s pp iA iB)) (own_ax (FP.i2d p0) (own_ax (FP.i2d p1) (0 : UInt64) (own_s pp iD iC)) (own_s pp iB iA))) d0)) (hb hby at_250) rfl hY0.1 rfl ?_
      show own_S p e below T643 m 251 _ [(.double (FP.dmul (own_s pp (own_ax (FP.i2d p0) (own_ax (FP.i2d p1) (0 : UInt64) (own_s pp iC iD)) (own_s pp iA iB)) (own_ax (FP.i2d p0) (own_ax (FP.i2d p1) (0 : UInt64) (own_s pp iD iC)) (own_s pp iB iA))) d0))] _
      refine XS.iloadN X643.here hx rfl (hb hby at_251) rfl ?_
      show own_S p e below T643 m 252 _ [(.int p0), (.double (FP.dmul (own_s pp (own_ax (FP.i2d p0) (own_ax (FP.i2d p1) (0 : UInt64) (own_s pp iC iD)) (own_s pp iA iB)) (own_ax (FP.i2d p0) (own_ax (FP.i2d p1) (0 : UInt64) (own_s pp iD iC)) (own_s pp iB iA))) d0))] _
      refine XS.i2dS X643.here hx rfl (v := (FP.i2d p0)) (hb hby at_252) rfl rfl ?_
      show own_S p e below T643 m 253 _ [(.double (FP.i2d p0)), (.double (FP.dmul (own_s pp (own_ax (FP.i2d p0) (own_ax (FP.i2d p1) (0 : UInt64) (own_s pp iC iD)) (own_s pp iA iB)) (own_ax (FP.i2d p0) (own_ax (FP.i2d p1) (0 : UInt64) (own_s pp iD iC)) (own_s pp iB iA))) d0))] _
      refine XS.dcmpS X643.here hx rfl (v := (0 : Int32)) (hb hby at_253) rfl hY0.2 ?_
      show own_S p e below T643 m 254 #[oI p0, oI p1, oI p2, oI p3, oI pp, oI qq, oD d0, oV, oD d1, oV, oD ee_103, oV, oR b105, oR b115, oI 1, oR y_643, oU, oU] [(.int 0)] _
      refine XS.ifNo X643.here hx rfl (hb hby at_254) rfl ((if0 _ _).trans (teq (by decide : (0 : Int32) = (0 : Int32))).2) ?_
      refine XS.iconst X643.here hx rfl (hb hby at_257) ?_
      refine XS.goto X643.here hx rfl (pc0 := 258) (pc' := 262) rfl (hb hby at_258) (by decide) (by decide) ?_
      refine XS.istore X643.here hx rfl (hb hby at_262) rfl (l' := #[oI p0, oI p1, oI p2, oI p3, oI pp, oI qq, oD d0, oV, oD d1, oV, oD ee_103, oV, oR b105, oR b115, oI 1, oR y_643, oI 1, oU]) rfl ?_
      show own_S p e below T643 m 264 #[oI p0, oI p1, oI p2, oI p3, oI pp, oI qq, oD d0, oV, oD d1, oV, oD ee_103, oV, oR b105, oR b115, oI 1, oR y_643, oI 1, oU] [] _
      refine XS.aload X643.here hx rfl (hb hby at_264) rfl rfl ?_
      refine XS.iload X643.here hx rfl (hb hby at_266) rfl ?_
      show own_S p e below T643 m 268 _ [(.int pp), (.ref y_643)] _
      refine X643.daload hx (j := pp) (v := (.double (own_s pp (own_ax (FP.i2d p0) (own_ax (FP.i2d p1) (0 : UInt64) (own_s pp iC iD)) (own_s pp iA iB)) (own_ax (FP.i2d p0) (own_ax (FP.i2d p1) (0 : UInt64) (own_s pp iD iC)) (own_s pp iB iA))))) Ar645.1 (State.isArrayOf_alike hZ.alike Ar645.2.1) Ar645.2.2 hin647 hat647 (g := (mkF m 268 #[oI p0, oI p1, oI p2, oI p3, oI pp, oI qq, oD d0, oV, oD d1, oV, oD ee_103, oV, oR b105, oR b115, oI 1, oR y_643, oI 1, oU] [(.int pp), (.ref y_643)])) rfl rfl (hb hby at_268) _ ?_
      show own_S p e below T643 m 269 _ [(.double (own_s pp (own_ax (FP.i2d p0) (own_ax (FP.i2d p1) (0 : UInt64) (own_s pp iC iD)) (own_s pp iA iB)) (own_ax (FP.i2d p0) (own_ax (FP.i2d p1) (0 : UInt64) (own_s pp iD iC)) (own_s pp iB iA))))] _
      refine XS.dload X643.here hx rfl (hb hby at_269) rfl ?_
      show own_S p e below T643 m 271 _ [(.double ee_103), (.double (own_s pp (own_ax (FP.i2d p0) (own_ax (FP.i2d p1) (0 : UInt64) (own_s pp iC iD)) (own_s pp iA iB)) (own_ax (FP.i2d p0) (own_ax (FP.i2d p1) (0 : UInt64) (own_s pp iD iC)) (own_s pp iB iA))))] _
      refine XS.dmulS X643.here hx rfl (v := (FP.dmul (own_s pp (own_ax (FP.i2d p0) (own_ax (FP.i2d p1) (0 : UInt64) (own_s pp iC iD)) (own_s pp iA iB)) (own_ax (FP.i2d p0) (own_ax (FP.i2d p1) (0 : UInt64) (own_s pp iD iC)) (own_s pp iB iA))) ee_103)) (hb hby at_271) rfl hY1.1 rfl ?_
      show own_S p e below T643 m 272 _ [(.double (FP.dmul (own_s pp (own_ax (FP.i2d p0) (own_ax (FP.i2d p1) (0 : UInt64) (own_s pp iC iD)) (own_s pp iA iB)) (own_ax (FP.i2d p0) (own_ax (FP.i2d p1) (0 : UInt64) (own_s pp iD iC)) (own_s pp iB iA))) ee_103))] _
      refine XS.aload X643.here hx rfl (hb hby at_272) rfl rfl ?_
      refine XS.iconst X643.here hx rfl (hb hby at_274) ?_
      refine XS.iload X643.here hx rfl (hb hby at_275) rfl ?_
      show own_S p e below T643 m 277 _ [(.int pp), (.int 1), (.ref y_643), (.double (FP.dmul (own_s pp (own_ax (FP.i2d p0) (own_ax (FP.i2d p1) (0 : UInt64) (own_s pp iC iD)) (own_s pp iA iB)) (own_ax (FP.i2d p0) (own_ax (FP.i2d p1) (0 : UInt64) (own_s pp iD iC)) (own_s pp iB iA))) ee_103))] _
      refine XS.isub X643.here hx rfl (hb hby at_277) rfl ?_
      show own_S p e below T643 m 278 _ [(.int ((1 : Int32) - pp)), (.ref y_643), (.double (FP.dmul (own_s pp (own_ax (FP.i2d p0) (own_ax (FP.i2d p1) (0 : UInt64) (own_s pp iC iD)) (own_s pp iA iB)) (own_ax (FP.i2d p0) (own_ax (FP.i2d p1) (0 : UInt64) (own_s pp iD iC)) (own_s pp iB iA))) ee_103))] _
      refine reI (hpq.symm : ((1 : Int32) - pp) = pq) ?_
      show own_S p e below T643 m 278 _ [(.int pq), (.ref y_643), (.double (FP.dmul (own_s pp (own_ax (FP.i2d p0) (own_ax (FP.i2d p1) (0 : UInt64) (own_s pp iC iD)) (own_s pp iA iB)) (own_ax (FP.i2d p0) (own_ax (FP.i2d p1) (0 : UInt64) (own_s pp iD iC)) (own_s pp iB iA))) ee_103))] _
      refine X643.daload hx (j := pq) (v := (.double (own_s pp (own_ax (FP.i2d p0) (own_ax (FP.i2d p1) (0 : UInt64) (own_s pp iD iC)) (own_s pp iB iA)) (own_ax (FP.i2d p0) (own_ax (FP.i2d p1) (0 : UInt64) (own_s pp iC iD)) (own_s pp iA iB))))) Ar645.1 (State.isArrayOf_alike hZ.alike Ar645.2.1) Ar645.2.2 hin648 hat648 (g := (mkF m 278 #[oI p0, oI p1, oI p2, oI p3, oI pp, oI qq, oD d0, oV, oD d1, oV, oD ee_103, oV, oR b105, oR b115, oI 1, oR y_643, oI 1, oU] [(.int pq), (.ref y_643), (.double (FP.dmul (own_s pp (own_ax (FP.i2d p0) (own_ax (FP.i2d p1) (0 : UInt64) (own_s pp iC iD)) (own_s pp iA iB)) (own_ax (FP.i2d p0) (own_ax (FP.i2d p1) (0 : UInt64) (own_s pp iD iC)) (own_s pp iB iA))) ee_103))])) rfl rfl (hb hby at_278) _ ?_
      show own_S p e below T643 m 279 _ [(.double (own_s pp (own_ax (FP.i2d p0) (own_ax (FP.i2d p1) (0 : UInt64) (own_s pp iD iC)) (own_s pp iB iA)) (own_ax (FP.i2d p0) (own_ax (FP.i2d p1) (0 : UInt64) (own_s pp iC iD)) (own_s pp iA iB)))), (.double (FP.dmul (own_s pp (own_ax (FP.i2d p0) (own_ax (FP.i2d p1) (0 : UInt64) (own_s pp iC iD)) (own_s pp iA iB)) (own_ax (FP.i2d p0) (own_ax (FP.i2d p1) (0 : UInt64) (own_s pp iD iC)) (own_s pp iB iA))) ee_103))] _
      refine XS.dload X643.here hx rfl (hb hby at_279) rfl ?_
      show own_S p e below T643 m 281 _ [(.double d1), (.double (own_s pp (own_ax (FP.i2d p0) (own_ax (FP.i2d p1) (0 : UInt64) (own_s pp iD iC)) (own_s pp iB iA)) (own_ax (FP.i2d p0) (own_ax (FP.i2d p1) (0 : UInt64) (own_s pp iC iD)) (own_s pp iA iB)))), (.double (FP.dmul (own_s pp (own_ax (FP.i2d p0) (own_ax (FP.i2d p1) (0 : UInt64) (own_s pp iC iD)) (own_s pp iA iB)) (own_ax (FP.i2d p0) (own_ax (FP.i2d p1) (0 : UInt64) (own_s pp iD iC)) (own_s pp iB iA))) ee_103))] _
      refine XS.dmulS X643.here hx rfl (v := (FP.dmul (own_s pp (own_ax (FP.i2d p0) (own_ax (FP.i2d p1) (0 : UInt64) (own_s pp iD iC)) (own_s pp iB iA)) (own_ax (FP.i2d p0) (own_ax (FP.i2d p1) (0 : UInt64) (own_s pp iC iD)) (own_s pp iA iB))) d1)) (hb hby at_281) rfl hY1.2.1 rfl ?_
      show own_S p e below T643 m 282 _ [(.double (FP.dmul (own_s pp (own_ax (FP.i2d p0) (own_ax (FP.i2d p1) (0 : UInt64) (own_s pp iD iC)) (own_s pp iB iA)) (own_ax (FP.i2d p0) (own_ax (FP.i2d p1) (0 : UInt64) (own_s pp iC iD)) (own_s pp iA iB))) d1)), (.double (FP.dmul (own_s pp (own_ax (FP.i2d p0) (own_ax (FP.i2d p1) (0 : UInt64) (own_s pp iC iD)) (own_s pp iA iB)) (own_ax (FP.i2d p0) (own_ax (FP.i2d p1) (0 : UInt64) (own_s pp iD iC)) (own_s pp iB iA))) ee_103))] _
      refine XS.daddS X643.here hx rfl (v := (FP.dadd (FP.dmul (own_s pp (own_ax (FP.i2d p0) (own_ax (FP.i2d p1) (0 : UInt64) (own_s pp iC iD)) (own_s pp iA iB)) (own_ax (FP.i2d p0) (own_ax (FP.i2d p1) (0 : UInt64) (own_s pp iD iC)) (own_s pp iB iA))) ee_103) (FP.dmul (own_s pp (own_ax (FP.i2d p0) (own_ax (FP.i2d p1) (0 : UInt64) (own_s pp iD iC)) (own_s pp iB iA)) (own_ax (FP.i2d p0) (own_ax (FP.i2d p1) (0 : UInt64) (own_s pp iC iD)) (own_s pp iA iB))) d1))) (hb hby at_282) rfl hY1.2.2.1 rfl ?_
      show own_S p e below T643 m 283 #[oI p0, oI p1, oI p2, oI p3, oI pp, oI qq, oD d0, oV, oD d1, oV, oD ee_103, oV, oR b105, oR b115, oI 1, oR y_643, oI 1, oU] [(.double (FP.dadd (FP.dmul (own_s pp (own_ax (FP.i2d p0) (own_ax (FP.i2d p1) (0 : UInt64) (own_s pp iC iD)) (own_s pp iA iB)) (own_ax (FP.i2d p0) (own_ax (FP.i2d p1) (0 : UInt64) (own_s pp iD iC)) (own_s pp iB iA))) ee_103) (FP.dmul (own_s pp (own_ax (FP.i2d p0) (own_ax (FP.i2d p1) (0 : UInt64) (own_s pp iD iC)) (own_s pp iB iA)) (own_ax (FP.i2d p0) (own_ax (FP.i2d p1) (0 : UInt64) (own_s pp iC iD)) (own_s pp iA iB))) d1)))] _
      refine XS.iloadN X643.here hx rfl (hb hby at_283) rfl ?_
      show own_S p e below T643 m 284 _ [(.int p1), (.double (FP.dadd (FP.dmul (own_s pp (own_ax (FP.i2d p0) (own_ax (FP.i2d p1) (0 : UInt64) (own_s pp iC iD)) (own_s pp iA iB)) (own_ax (FP.i2d p0) (own_ax (FP.i2d p1) (0 : UInt64) (own_s pp iD iC)) (own_s pp iB iA))) ee_103) (FP.dmul (own_s pp (own_ax (FP.i2d p0) (own_ax (FP.i2d p1) (0 : UInt64) (own_s pp iD iC)) (own_s pp iB iA)) (own_ax (FP.i2d p0) (own_ax (FP.i2d p1) (0 : UInt64) (own_s pp iC iD)) (own_s pp iA iB))) d1)))] _
      refine XS.i2dS X643.here hx rfl (v := (FP.i2d p1)) (hb hby at_284) rfl rfl ?_
      show own_S p e below T643 m 285 _ [(.double (FP.i2d p1)), (.double (FP.dadd (FP.dmul (own_s pp (own_ax (FP.i2d p0) (own_ax (FP.i2d p1) (0 : UInt64) (own_s pp iC iD)) (own_s pp iA iB)) (own_ax (FP.i2d p0) (own_ax (FP.i2d p1) (0 : UInt64) (own_s pp iD iC)) (own_s pp iB iA))) ee_103) (FP.dmul (own_s pp (own_ax (FP.i2d p0) (own_ax (FP.i2d p1) (0 : UInt64) (own_s pp iD iC)) (own_s pp iB iA)) (own_ax (FP.i2d p0) (own_ax (FP.i2d p1) (0 : UInt64) (own_s pp iC iD)) (own_s pp iA iB))) d1)))] _
      refine XS.dcmpS X643.here hx rfl (v := (0 : Int32)) (hb hby at_285) rfl hY1.2.2.2 ?_
      show own_S p e below T643 m 286 _ [(.int 0)] _
      refine XS.ifNo X643.here hx rfl (hb hby at_286) rfl ((if0 _ _).trans (teq (by decide : (0 : Int32) = (0 : Int32))).2) ?_
      refine XS.iconst X643.here hx rfl (hb hby at_289) ?_
      refine XS.goto X643.here hx rfl (pc0 := 290) (pc' := 294) rfl (hb hby at_290) (by decide) (by decide) ?_
      refine XS.istore X643.here hx rfl (hb hby at_294) rfl (l' := #[oI p0, oI p1, oI p2, oI p3, oI pp, oI qq, oD d0, oV, oD d1, oV, oD ee_103, oV, oR b105, oR b115, oI 1, oR y_643, oI 1, oI 1]) rfl ?_
      show own_S p e below T643 m 296 #[oI p0, oI p1, oI p2, oI p3, oI pp, oI qq, oD d0, oV, oD d1, oV, oD ee_103, oV, oR b105, oR b115, oI 1, oR y_643, oI 1, oI 1] [] _
      refine XS.iload X643.here hx rfl (hb hby at_296) rfl ?_
      refine XS.ifNo X643.here hx rfl (hb hby at_298) rfl ((if0 _ _).trans (feq (by decide : ¬ ((1 : Int32) = (0 : Int32)))).1) ?_
      refine XS.iload X643.here hx rfl (hb hby at_301) rfl ?_
      refine XS.ifNo X643.here hx rfl (hb hby at_303) rfl ((if0 _ _).trans (feq (by decide : ¬ ((1 : Int32) = (0 : Int32)))).1) ?_
      show own_S p e below T643 m 306 _ [] _
      refine XS.iconst X643.here hx rfl (hb hby at_306) ?_
      refine XS.goto X643.here hx rfl (pc0 := 307) (pc' := 311) rfl (hb hby at_307) (by decide) (by decide) ?_
      show own_S p e below T643 m 311 _ [(.int 1)] _
      exact retN X643 hx (t := .boolean) Bd.returns (by simp) (hb hby at_311) hr
    · show Qm0 Z p0 p1 p2 p3 h0 n0 _ T643.heap _
      exact ⟨rfl, N643⟩
set_option maxRecDepth 65536 in
set_option maxHeartbeats 40000000 in
theorem comes_1 {Post : Tables → Env → Array Value → State → Outcome → State → Prop} (hpost : ∀ tb e args s v u, (limb_1_1.after args s (.returned v) u = true ∧ limb_1_2.after args s (.returned v) u = true ∧ True) → FrameEnd s (.returned v) u (Jvm.fieldLocs frame_1_writes args s ++ Jvm.arrayLocs frame_1_arrays args s ++ Jvm.staticLocs frame_1_statics s) 72 384 → Post tb e args s (.returned v) u) :
    ArmFor flags0 classFile x code maxLocals ret World_1 tables_1 room_1 Calls_1 rest_1 Pre_1 Post := by
  intro l hfl _ _ p e ha hc hk s m args below hf hA hF happ hP
  obtain ⟨hcalls, hrest, hpre⟩ := hP
  obtain ⟨-, -, -, hnamed, -, -, -, hat⟩ := (Spec.applies_iff hf).mp happ
  obtain ⟨hg, hn⟩ := and_e (Cond.before_iff.mp (show (Jvm.Cond.and given_1 narrow_1).before args s = true from hpre))
  obtain ⟨hcount, hg0⟩ := and_e hg
  obtain ⟨hv0, hg1⟩ := and_e hg0
  obtain ⟨hv1, hg2⟩ := and_e hg1
  obtain ⟨hv2, hg3⟩ := and_e hg2
  obtain ⟨w0, w1, w2, w3, rfl⟩ : ∃ w0 w1 w2 w3 : Value, args = #[w0, w1, w2, w3] := by
    have hs : args.size = 4 := by simpa [Cond.value, given_1] using hcount
    obtain ⟨L⟩ := args
    match L, hs with
    | [w0, w1, w2, w3], _ => exact ⟨w0, w1, w2, w3, rfl⟩
  have hw := fun d (hd : d ∈ tables_1) => atoms_spec (ws := Jvm.Cond.code x code maxLocals ret :: tables_1) hat d (List.mem_cons_of_mem _ hd)
  have hfit : Fit s := fun {y c} hc i hi => by
    obtain ⟨ha, rfl⟩ := Array.getElem?_eq_some_iff.mp hc
    have q := List.all_eq_true.mp ((Array.all_eq_true_iff_forall_mem.mp hF) _ (Array.getElem_mem ha)) i (List.mem_range.mpr hi)
    simpa [Array.getElem?_eq_getElem hi] using q
  obtain ⟨i0, ei0⟩ := is_v hv0
  obtain rfl : w0 = (.int i0) := Option.some.inj ei0
  obtain ⟨i1, ei1⟩ := is_v hv1
  obtain rfl : w1 = (.int i1) := Option.some.inj ei1
  obtain ⟨i2, ei2⟩ := is_v hv2
  obtain rfl : w2 = (.int i2) := Option.some.inj ei2
  obtain ⟨i3, ei3⟩ := is_v hg3
  obtain rfl : w3 = (.int i3) := Option.some.inj ei3
  obtain ⟨n, o, h1, h2, h3, _, L, rfl, ⟨rfl, N⟩, hq⟩ := rmm0 l s _ hw tables_1 i0 i1 i2 i3 s.heap s.heap.size (Nat.le_refl _)  p e ha hc hk s m _ below hf ((Spec.applies_iff_loose hf).mp happ).1 ⟨rfl, State.Warmed39.refl s, rfl⟩ trivial
  refine ⟨n, _, h1, h2, h3, hpost _ _ _ _ _ _ ⟨Cond.after_iff.mpr rfl, Cond.after_iff.mpr (eq_i res_at (Term.int_eval (1)) rfl), trivial⟩ ⟨hq.1, hq.2.1, (hq.2.2.sift fun y hy => Or.inr (N y hy)).mono (by decide) (by decide)⟩⟩
theorem main_1_1 : Claimed_1_1 := comes_1 fun _ _ _ _ _ _ h hF => ⟨h.1, hF⟩
theorem main_1_2 : Claimed_1_2 := comes_1 fun _ _ _ _ _ _ h hF => ⟨h.2.1, hF⟩
end Jvm.Pilot.@@N@@
namespace Jvm.Pilot.@@N@@
open Jvm Jvm.ClassFile Sem Op Lib Jvm.Free Jvm.Stand Jvm.Pilot.@@N@@.Jvm.D
/-! MADE BY PROGRAM (witnessworld.py) out of the Statement's table words and the real class files: 15 classes; the members and pool entries that the words name. The judged class is class 1, her method 2. -/
namespace start1
open Jvm.ClassFile
def u (s : String) : CpInfo := .utf8 (stringToUtf16 s)
/-- a pool by its gaps: so many unusable entries, then the entry; so many at the end -/
def gap : Nat → List CpInfo → List CpInfo
  | 0, r => r
  | n + 1, r => .unusable :: gap n r
def poolList (es : List (Nat × CpInfo)) (last : Nat) : List CpInfo := es.foldr (fun e r => gap e.1 (e.2 :: r)) (gap last [])
def pool (es : List (Nat × CpInfo)) (last : Nat) : Array CpInfo := ⟨poolList es last⟩
def fileOf (pool : Array CpInfo) (this : Nat) (attrs : Array Attribute := #[]) (ms : Array MethodInfo := #[]) (fl : Nat := 33) (sup : Nat := 0) (ifs : Array Nat := #[]) (fds : Array FieldInfo := #[]) : ClassFile where
  minorVersion := 0
  majorVersion := 65
  constantPool := pool
  accessFlags := fl
  thisClass := this
  superClass := sup
  interfaces := ifs
  fields := fds
  methods := ms
  attributes := attrs
def plain (name : String) (sup : Option ClassId) : Class where
  name := name
  kind := .ordinary
  loader := none
  accessFlags := 33
  super := sup
  interfaces := #[]
  cf := none
  fields := #[]
  methods := #[]
  instanceTypes := #[]
  staticTypes := #[]
  resolved := #[]
  callSites := []
  init := .initialized
  statics := none
  mirror := none

def pool0 : Array CpInfo := pool [(5, u "<init>"), (0, u "()V"), (1, .class_ 10), (1, u "java/lang/Object"), (85, u "clone"), (0, u "()Ljava/lang/Object;")] 26

def k0c0 : Code := { maxStack := 0, maxLocals := 1, code := object_method_1_code, exceptionTable := #[], attributes := #[] }
def k0m0 : Method := { name := "<init>", desc := "()V", sig := { parameters := [], returnType := none }, accessFlags := 1, code := some k0c0 }
def k0m1 : Method := { name := "clone", desc := "()Ljava/lang/Object;", sig := { parameters := [], returnType := some (.object "java/lang/Object") }, accessFlags := 260, code := none }
/-- java/lang/Object -/
def k0 : Class := { plain "java/lang/Object" none with
  accessFlags := 33
  interfaces := #[]
  cf := some (fileOf pool0 8 #[] #[{ accessFlags := 1, nameIndex := 5, descriptorIndex := 6, attributes := #[] }, { accessFlags := 260, nameIndex := 96, descriptorIndex := 97, attributes := #[] }] 33 0 #[] #[])
  fields := #[]
  methods := #[k0m0, k0m1]
  instanceTypes := #[]
  staticTypes := #[]
  resolved := Array.replicate 124 none
  statics := none }

def pool1 : Array CpInfo := pool [(2, .class_ 4), (1, u "java/lang/Object"), (0, u "<init>"), (0, u "()V"), (0, .methodref 8 9), (0, .class_ 10), (0, .nameAndType 11 12), (0, u "com/example/winnower/winnower/discrepancy/SimplexMultipliersPinLaw"), (0, u "pow2"), (0, u "(I)D"), (0, .class_ 14), (0, u "com/example/winnower/winnower/discrepancy/Simplex"), (0, .methodref 13 16), (0, .nameAndType 5 17), (0, u "([D)V"), (0, .double 13830554455654793216), (1, .methodref 13 21), (0, .nameAndType 22 23), (0, u "add"), (0, u "(D[I[DZ)I"), (0, .methodref 13 25), (0, .nameAndType 26 27), (0, u "start"), (0, u "([I)Z"), (0, .methodref 13 29), (0, .nameAndType 30 31), (0, u "multipliers"), (0, u "()[D"), (3, u "law"), (0, u "(IIII)Z")] 4

def k1m0 : Method := { name := "<init>", desc := "()V", sig := { parameters := [], returnType := none }, accessFlags := 2, code := none }
def k1c1 : Code := { maxStack := 3, maxLocals := 3, code := method_2_code, exceptionTable := #[], attributes := #[] }
def k1m1 : Method := { name := "pow2", desc := "(I)D", sig := { parameters := [.int], returnType := some .double }, accessFlags := 10, code := some k1c1 }
def k1c2 : Code := { maxStack := 9, maxLocals := 18, code := code, exceptionTable := #[], attributes := #[] }
def k1m2 : Method := { name := "law", desc := "(IIII)Z", sig := { parameters := [.int, .int, .int, .int], returnType := some .boolean }, accessFlags := 9, code := some k1c2 }
/-- com/example/winnower/winnower/discrepancy/SimplexMultipliersPinLaw -/
def k1 : Class := { plain "com/example/winnower/winnower/discrepancy/SimplexMultipliersPinLaw" (some 0) with
  accessFlags := 49
  interfaces := #[]
  cf := some (fileOf pool1 8 #[] #[{ accessFlags := 2, nameIndex := 5, descriptorIndex := 6, attributes := #[] }, { accessFlags := 10, nameIndex := 11, descriptorIndex := 12, attributes := #[] }, { accessFlags := 9, nameIndex := 35, descriptorIndex := 36, attributes := #[] }] 49 2 #[] #[])
  fields := #[]
  methods := #[k1m0, k1m1, k1m2]
  instanceTypes := #[]
  staticTypes := #[]
  resolved := Array.replicate 41 none
  statics := none }

def pool2 : Array CpInfo := pool [(1, .methodref 2 3), (0, .class_ 4), (0, .nameAndType 5 6), (0, u "java/lang/Object"), (0, u "<init>"), (0, u "()V"), (0, .fieldref 8 9), (0, .class_ 10), (0, .nameAndType 11 12), (0, u "com/example/winnower/winnower/discrepancy/Simplex"), (0, u "costs"), (0, u "[D"), (0, .fieldref 8 14), (0, .nameAndType 15 16), (0, u "free"), (0, u "[Z"), (0, .class_ 18), (0, u "[I"), (0, .fieldref 8 20), (0, .nameAndType 21 22), (0, u "entryRows"), (0, u "[[I"), (0, .class_ 12), (0, .fieldref 8 25), (0, .nameAndType 26 27), (0, u "entryValues"), (0, u "[[D"), (0, .fieldref 8 29), (0, .nameAndType 30 18), (0, u "place"), (0, .fieldref 8 32), (0, .nameAndType 33 34), (0, u "rows"), (0, u "I"), (0, .methodref 23 36), (0, .nameAndType 37 38), (0, u "clone"), (0, u "()Ljava/lang/Object;"), (0, .fieldref 8 40), (0, .nameAndType 41 12), (0, u "rhs"), (0, .fieldref 8 43), (0, .nameAndType 44 18), (0, u "basic"), (0, .class_ 27), (0, .fieldref 8 47), (0, .nameAndType 48 27), (0, u "inverse"), (0, .fieldref 8 50), (0, .nameAndType 51 12), (0, u "values"), (0, .fieldref 8 53), (0, .nameAndType 54 34), (0, u "columns"), (1, .class_ 58), (1, u "java/util/Arrays"), (12, .methodref 17 36), (0, .methodref 8 73), (0, .nameAndType 74 75), (0, u "refresh"), (0, u "()Z"), (0, .methodref 8 77), (0, .nameAndType 78 79), (0, u "leastBoundedValue"), (0, u "()D"), (0, .double 13650858631089744401), (3, .fieldref 8 85), (0, .nameAndType 86 34), (0, u "pivotsSinceRefresh"), (2, u "multipliers"), (0, u "()[D"), (19, .class_ 112), (1, u "java/lang/Math"), (1, u "(DD)D"), (6, .methodref 110 122), (0, .nameAndType 123 124), (0, u "abs"), (0, u "(D)D"), (6, .double 9218868437227405312), (1, .double 4472406533629990549), (3, .methodref 110 138), (0, .nameAndType 139 114), (0, u "min"), (0, .methodref 56 141), (0, .nameAndType 142 143), (0, u "fill"), (0, u "([DD)V"), (0, .methodref 8 145), (0, .nameAndType 146 147), (0, u "swap"), (0, u "([[DII)V"), (0, u "OPTIMALITY"), (0, u "D"), (1, u "FEASIBILITY"), (0, u "PIVOT"), (0, u "TIE"), (0, u "REFRESH"), (1, u "PIVOTS_PER_LINE"), (0, u "([D)V"), (2, u "add"), (0, u "(D[I[DZ)I"), (1, u "start"), (0, u "([I)Z")] 3

def k2c0 : Code := { maxStack := 3, maxLocals := 2, code := prog_41_method_1_code, exceptionTable := #[], attributes := #[] }
def k2m0 : Method := { name := "<init>", desc := "([D)V", sig := { parameters := [(.array .double)], returnType := none }, accessFlags := 128, code := some k2c0 }
def k2c1 : Code := { maxStack := 4, maxLocals := 7, code := prog_41_method_2_code, exceptionTable := #[], attributes := #[] }
def k2m1 : Method := { name := "add", desc := "(D[I[DZ)I", sig := { parameters := [.double, (.array .int), (.array .double), .boolean], returnType := some .int }, accessFlags := 0, code := some k2c1 }
def k2c2 : Code := { maxStack := 4, maxLocals := 3, code := prog_41_method_3_code, exceptionTable := #[], attributes := #[] }
def k2m2 : Method := { name := "start", desc := "([I)Z", sig := { parameters := [(.array .int)], returnType := some .boolean }, accessFlags := 128, code := some k2c2 }
def k2c3 : Code := { maxStack := 8, maxLocals := 6, code := prog_41_method_4_code, exceptionTable := #[], attributes := #[] }
def k2m3 : Method := { name := "multipliers", desc := "()[D", sig := { parameters := [], returnType := some (.array .double) }, accessFlags := 0, code := some k2c3 }
def k2c4 : Code := { maxStack := 8, maxLocals := 10, code := prog_41_method_12_code, exceptionTable := #[], attributes := #[] }
def k2m4 : Method := { name := "refresh", desc := "()Z", sig := { parameters := [], returnType := some .boolean }, accessFlags := 2, code := some k2c4 }
def k2c5 : Code := { maxStack := 4, maxLocals := 4, code := prog_41_method_13_code, exceptionTable := #[], attributes := #[] }
def k2m5 : Method := { name := "leastBoundedValue", desc := "()D", sig := { parameters := [], returnType := some .double }, accessFlags := 2, code := some k2c5 }
def k2c6 : Code := { maxStack := 4, maxLocals := 4, code := prog_41_method_14_code, exceptionTable := #[], attributes := #[] }
def k2m6 : Method := { name := "swap", desc := "([[DII)V", sig := { parameters := [(.array (.array .double)), .int, .int], returnType := none }, accessFlags := 10, code := some k2c6 }
/-- com/example/winnower/winnower/discrepancy/Simplex -/
def k2 : Class := { plain "com/example/winnower/winnower/discrepancy/Simplex" (some 0) with
  accessFlags := 48
  interfaces := #[]
  cf := some (fileOf pool2 8 #[] #[{ accessFlags := 128, nameIndex := 5, descriptorIndex := 157, attributes := #[] }, { accessFlags := 0, nameIndex := 160, descriptorIndex := 161, attributes := #[] }, { accessFlags := 128, nameIndex := 163, descriptorIndex := 164, attributes := #[] }, { accessFlags := 0, nameIndex := 89, descriptorIndex := 90, attributes := #[] }, { accessFlags := 2, nameIndex := 74, descriptorIndex := 75, attributes := #[] }, { accessFlags := 2, nameIndex := 78, descriptorIndex := 79, attributes := #[] }, { accessFlags := 10, nameIndex := 146, descriptorIndex := 147, attributes := #[] }] 48 2 #[] #[{ accessFlags := 26, nameIndex := 148, descriptorIndex := 149, attributes := #[] }, { accessFlags := 26, nameIndex := 151, descriptorIndex := 149, attributes := #[] }, { accessFlags := 26, nameIndex := 152, descriptorIndex := 149, attributes := #[] }, { accessFlags := 26, nameIndex := 153, descriptorIndex := 149, attributes := #[] }, { accessFlags := 26, nameIndex := 154, descriptorIndex := 34, attributes := #[] }, { accessFlags := 26, nameIndex := 156, descriptorIndex := 34, attributes := #[] }, { accessFlags := 18, nameIndex := 33, descriptorIndex := 34, attributes := #[] }, { accessFlags := 18, nameIndex := 41, descriptorIndex := 12, attributes := #[] }, { accessFlags := 2, nameIndex := 54, descriptorIndex := 34, attributes := #[] }, { accessFlags := 2, nameIndex := 11, descriptorIndex := 12, attributes := #[] }, { accessFlags := 2, nameIndex := 15, descriptorIndex := 16, attributes := #[] }, { accessFlags := 2, nameIndex := 21, descriptorIndex := 22, attributes := #[] }, { accessFlags := 2, nameIndex := 26, descriptorIndex := 27, attributes := #[] }, { accessFlags := 18, nameIndex := 44, descriptorIndex := 18, attributes := #[] }, { accessFlags := 2, nameIndex := 30, descriptorIndex := 18, attributes := #[] }, { accessFlags := 18, nameIndex := 48, descriptorIndex := 27, attributes := #[] }, { accessFlags := 18, nameIndex := 51, descriptorIndex := 12, attributes := #[] }, { accessFlags := 2, nameIndex := 86, descriptorIndex := 34, attributes := #[] }])
  fields := #[{ name := "OPTIMALITY", type := .double, accessFlags := 26, slot := 0, constantValue := 0 }, { name := "FEASIBILITY", type := .double, accessFlags := 26, slot := 1, constantValue := 0 }, { name := "PIVOT", type := .double, accessFlags := 26, slot := 2, constantValue := 0 }, { name := "TIE", type := .double, accessFlags := 26, slot := 3, constantValue := 0 }, { name := "REFRESH", type := .int, accessFlags := 26, slot := 4, constantValue := 0 }, { name := "PIVOTS_PER_LINE", type := .int, accessFlags := 26, slot := 5, constantValue := 0 }, { name := "rows", type := .int, accessFlags := 18, slot := 0, constantValue := 0 }, { name := "rhs", type := (.array .double), accessFlags := 18, slot := 1, constantValue := 0 }, { name := "columns", type := .int, accessFlags := 2, slot := 2, constantValue := 0 }, { name := "costs", type := (.array .double), accessFlags := 2, slot := 3, constantValue := 0 }, { name := "free", type := (.array .boolean), accessFlags := 2, slot := 4, constantValue := 0 }, { name := "entryRows", type := (.array (.array .int)), accessFlags := 2, slot := 5, constantValue := 0 }, { name := "entryValues", type := (.array (.array .double)), accessFlags := 2, slot := 6, constantValue := 0 }, { name := "basic", type := (.array .int), accessFlags := 18, slot := 7, constantValue := 0 }, { name := "place", type := (.array .int), accessFlags := 2, slot := 8, constantValue := 0 }, { name := "inverse", type := (.array (.array .double)), accessFlags := 18, slot := 9, constantValue := 0 }, { name := "values", type := (.array .double), accessFlags := 18, slot := 10, constantValue := 0 }, { name := "pivotsSinceRefresh", type := .int, accessFlags := 2, slot := 11, constantValue := 0 }]
  methods := #[k2m0, k2m1, k2m2, k2m3, k2m4, k2m5, k2m6]
  instanceTypes := #[.int, (.array .double), .int, (.array .double), (.array .boolean), (.array (.array .int)), (.array (.array .double)), (.array .int), (.array .int), (.array (.array .double)), (.array .double), .int]
  staticTypes := #[.double, .double, .double, .double, .int, .int]
  resolved := Array.replicate 168 none
  statics := none }

def pool3 : Array CpInfo := pool [(1, .class_ 2), (0, u "java/lang/Cloneable"), (0, .class_ 4), (0, u "java/lang/Object")] 2

/-- java/lang/Cloneable -/
def k3 : Class := { plain "java/lang/Cloneable" (some 0) with
  accessFlags := 1537
  interfaces := #[]
  cf := some (fileOf pool3 1 #[] #[] 1537 3 #[] #[])
  fields := #[]
  methods := #[]
  instanceTypes := #[]
  staticTypes := #[]
  resolved := Array.replicate 7 none
  statics := none }

def pool4 : Array CpInfo := pool [(2, .class_ 4), (1, u "java/lang/Object"), (0, u "<init>"), (0, u "()V"), (7, .class_ 16), (1, u "java/util/Arrays"), (57, .class_ 76), (1, u "java/util/Arrays$NaturalOrder"), (36, .class_ 115), (1, u "java/util/Arrays$LegacyMergeSort"), (1, u "Z"), (257, .class_ 376), (0, u "java/util/Arrays$ArrayList"), (68, u "$assertionsDisabled"), (269, u "MIN_ARRAY_SORT_GRAN"), (0, u "I"), (2, u "INSERTIONSORT_THRESHOLD"), (120, u "fill"), (13, u "([DD)V"), (120, .class_ 976), (0, u "java/util/Arrays$ArrayItr")] 52

def k4m0 : Method := { name := "<init>", desc := "()V", sig := { parameters := [], returnType := none }, accessFlags := 2, code := none }
def k4c1 : Code := { maxStack := 4, maxLocals := 5, code := jdk_65_method_113_code, exceptionTable := #[], attributes := #[] }
def k4m1 : Method := { name := "fill", desc := "([DD)V", sig := { parameters := [(.array .double), .double], returnType := none }, accessFlags := 9, code := some k4c1 }
/-- java/util/Arrays -/
def k4 : Class := { plain "java/util/Arrays" (some 0) with
  accessFlags := 49
  interfaces := #[]
  cf := some (fileOf pool4 14 #[.nestMembers #[975, 375, 113, 74]] #[{ accessFlags := 2, nameIndex := 5, descriptorIndex := 6, attributes := #[] }, { accessFlags := 9, nameIndex := 840, descriptorIndex := 854, attributes := #[] }] 49 2 #[] #[{ accessFlags := 26, nameIndex := 715, descriptorIndex := 716, attributes := #[] }, { accessFlags := 26, nameIndex := 719, descriptorIndex := 716, attributes := #[] }, { accessFlags := 4120, nameIndex := 445, descriptorIndex := 117, attributes := #[] }])
  fields := #[{ name := "MIN_ARRAY_SORT_GRAN", type := .int, accessFlags := 26, slot := 0, constantValue := 0 }, { name := "INSERTIONSORT_THRESHOLD", type := .int, accessFlags := 26, slot := 1, constantValue := 0 }, { name := "$assertionsDisabled", type := .boolean, accessFlags := 4120, slot := 2, constantValue := 0 }]
  methods := #[k4m0, k4m1]
  instanceTypes := #[]
  staticTypes := #[.int, .int, .boolean]
  resolved := Array.replicate 1029 none
  statics := none }

def pool5 : Array CpInfo := pool [(1, .class_ 2), (0, u "java/lang/Math"), (1, .class_ 6), (1, u "java/lang/Object"), (0, u "<init>"), (0, u "()V"), (5, u "(D)D"), (37, u "(DD)D"), (45, .class_ 100), (1, u "java/lang/Math$RandomNumberGeneratorHolder"), (23, u "abs"), (47, u "negativeZeroFloatBits"), (0, u "J"), (2, u "negativeZeroDoubleBits"), (24, u "min"), (43, u "$assertionsDisabled"), (0, u "Z"), (91, u "twoToTheDoubleScaleDown"), (0, u "D"), (4, u "twoToTheDoubleScaleUp"), (9, u "E"), (3, u "PI"), (2, u "TAU"), (2, u "DEGREES_TO_RADIANS"), (0, u "RADIANS_TO_DEGREES")] 94

def k5m0 : Method := { name := "<init>", desc := "()V", sig := { parameters := [], returnType := none }, accessFlags := 2, code := none }
def k5c1 : Code := { maxStack := 4, maxLocals := 2, code := jdk_29_method_64_code, exceptionTable := #[], attributes := #[] }
def k5m1 : Method := { name := "abs", desc := "(D)D", sig := { parameters := [.double], returnType := some .double }, accessFlags := 9, code := some k5c1 }
def k5c2 : Code := { maxStack := 4, maxLocals := 4, code := jdk_29_method_72_code, exceptionTable := #[], attributes := #[] }
def k5m2 : Method := { name := "min", desc := "(DD)D", sig := { parameters := [.double, .double], returnType := some .double }, accessFlags := 9, code := some k5c2 }
/-- java/lang/Math -/
def k5 : Class := { plain "java/lang/Math" (some 0) with
  accessFlags := 49
  interfaces := #[]
  cf := some (fileOf pool5 1 #[.nestMembers #[98]] #[{ accessFlags := 2, nameIndex := 7, descriptorIndex := 8, attributes := #[] }, { accessFlags := 9, nameIndex := 124, descriptorIndex := 14, attributes := #[] }, { accessFlags := 9, nameIndex := 201, descriptorIndex := 52, attributes := #[] }] 49 4 #[] #[{ accessFlags := 25, nameIndex := 354, descriptorIndex := 339, attributes := #[] }, { accessFlags := 25, nameIndex := 358, descriptorIndex := 339, attributes := #[] }, { accessFlags := 25, nameIndex := 361, descriptorIndex := 339, attributes := #[] }, { accessFlags := 26, nameIndex := 364, descriptorIndex := 339, attributes := #[] }, { accessFlags := 26, nameIndex := 365, descriptorIndex := 339, attributes := #[] }, { accessFlags := 26, nameIndex := 172, descriptorIndex := 173, attributes := #[] }, { accessFlags := 26, nameIndex := 176, descriptorIndex := 173, attributes := #[] }, { accessFlags := 8, nameIndex := 344, descriptorIndex := 339, attributes := #[] }, { accessFlags := 8, nameIndex := 338, descriptorIndex := 339, attributes := #[] }, { accessFlags := 4120, nameIndex := 245, descriptorIndex := 246, attributes := #[] }])
  fields := #[{ name := "E", type := .double, accessFlags := 25, slot := 0, constantValue := 0 }, { name := "PI", type := .double, accessFlags := 25, slot := 1, constantValue := 0 }, { name := "TAU", type := .double, accessFlags := 25, slot := 2, constantValue := 0 }, { name := "DEGREES_TO_RADIANS", type := .double, accessFlags := 26, slot := 3, constantValue := 0 }, { name := "RADIANS_TO_DEGREES", type := .double, accessFlags := 26, slot := 4, constantValue := 0 }, { name := "negativeZeroFloatBits", type := .long, accessFlags := 26, slot := 5, constantValue := 0 }, { name := "negativeZeroDoubleBits", type := .long, accessFlags := 26, slot := 6, constantValue := 0 }, { name := "twoToTheDoubleScaleUp", type := .double, accessFlags := 8, slot := 7, constantValue := 0 }, { name := "twoToTheDoubleScaleDown", type := .double, accessFlags := 8, slot := 8, constantValue := 0 }, { name := "$assertionsDisabled", type := .boolean, accessFlags := 4120, slot := 9, constantValue := 0 }]
  methods := #[k5m0, k5m1, k5m2]
  instanceTypes := #[]
  staticTypes := #[.double, .double, .double, .double, .double, .long, .long, .double, .double, .boolean]
  resolved := Array.replicate 460 none
  statics := none }

def pool6 : Array CpInfo := pool [(1, u "java/io/Serializable"), (0, .class_ 1), (0, u "java/lang/Object"), (0, .class_ 3)] 3

/-- java/io/Serializable -/
def k6 : Class := { plain "java/io/Serializable" (some 0) with
  accessFlags := 1537
  interfaces := #[]
  cf := some (fileOf pool6 2 #[] #[] 1537 4 #[] #[])
  fields := #[]
  methods := #[]
  instanceTypes := #[]
  staticTypes := #[]
  resolved := Array.replicate 8 none
  statics := none }

/-- the primitive boolean -/
def k7 : Class := { plain "boolean" none with kind := .primitive 'Z', accessFlags := 0x411 }
/-- [Z -/
def k8 : Class := { plain "[Z" (some 0) with kind := .array 7 .boolean, interfaces := #[3, 6], accessFlags := 1041 }

/-- the primitive byte -/
def k9 : Class := { plain "byte" none with kind := .primitive 'B', accessFlags := 0x411 }
/-- [B -/
def k10 : Class := { plain "[B" (some 0) with kind := .array 9 .byte, interfaces := #[3, 6], accessFlags := 1041 }

/-- the primitive double -/
def k11 : Class := { plain "double" none with kind := .primitive 'D', accessFlags := 0x411 }
/-- [D -/
def k12 : Class := { plain "[D" (some 0) with kind := .array 11 .double, interfaces := #[3, 6], accessFlags := 1041 }

/-- the primitive int -/
def k13 : Class := { plain "int" none with kind := .primitive 'I', accessFlags := 0x411 }
/-- [I -/
def k14 : Class := { plain "[I" (some 0) with kind := .array 13 .int, interfaces := #[3, 6], accessFlags := 1041 }

/-- [[I -/
def k15 : Class := { plain "[[I" (some 0) with kind := .array 14 (.array .int), interfaces := #[3, 6], accessFlags := 1041 }
/-- [[D -/
def k16 : Class := { plain "[[D" (some 0) with kind := .array 12 (.array .double), interfaces := #[3, 6], accessFlags := 1041 }
def heap : Heap := #[]
def classes : Array Class := #[k0, k1, k2, k3, k4, k5, k6, k7, k8, k9, k10, k11, k12, k13, k14, k15, k16]
def interned : List (Array UInt16 × Addr) := []
def slotsUsed : Nat := 0
def theMethod : MethodId := ⟨1, 2⟩
def args0 : Array Value := #[.int 5, .int 6, .int 7, .int 8]
def aboutOver (below : List Frame) : State where
  vm := { classes := classes, interned := interned.toArray }
  heap := heap
  slotsUsed := slotsUsed
  threads := #[{ frames := .invoking theMethod args0 :: below }]
def below0 : List Frame := [.native { method := ⟨0, 0⟩, args := #[] }]
def about1 : State := aboutOver below0
def p0 : Program := .bare "" "" ""
def e0 : Env := launch0.env 0 0 0
theorem w_frames : about1.frames = Frame.invoking theMethod args0 :: below0 := rfl
set_option maxRecDepth 65536 in
theorem w_args : argsFit about1.vm theMethod args0 = true := by decide +kernel
set_option maxRecDepth 65536 in
theorem w_heap : heapFits about1 = true := by decide +kernel
set_option maxRecDepth 65536 in
theorem w_runnable : about1.curStatus? = some .runnable := by decide +kernel
set_option maxRecDepth 65536 in
theorem w_alone : about1.alone = true := by decide +kernel
set_option maxRecDepth 65536 in
theorem w_named : about1.methodNamed? x = some theMethod := by decide +kernel
set_option maxRecDepth 65536 in
theorem w_hears : about1.hears theMethod below0 = true := by decide +kernel
set_option maxRecDepth 65536 in
theorem w_ripe : about1.ripe theMethod args0 below0 = true := by decide +kernel
theorem w_running : about1.status = .running := rfl
set_option maxRecDepth 65536 in
theorem w_room : about1.hasRoom e0.platform room_1 = true :=
  launch0.hasRoom_least _ room_1 (by decide +kernel) (by decide +kernel) (by decide +kernel) (by decide +kernel) (by decide +kernel) (by decide +kernel)
theorem allAtoms_all (ts : List Jvm.Cond) (a : Array Jvm.Value) (st : Jvm.State) : (allAtoms ts).before a st = ts.all (fun c => c.before a st) := by
  induction ts with
  | nil => rfl
  | cons c t ih =>
    show (Jvm.Cond.and c (allAtoms t)).before a st = _
    rw [Jvm.Cond.before_and, ih, List.all_cons]
def words1 : List Jvm.Cond := Jvm.Cond.code x code maxLocals ret :: tables_1
/-- a 'code' word, met by the world's own term for the bytes: nothing is compared byte by byte -/
theorem code_word {y : MethodName} {bytes : ByteArray} {mx : Nat} {rt : Option FieldType} {a : Array Value} {s : State} {m : MethodId} {meth : Method} {c : Code} (h1 : s.methodNamed? y = some m) (h2 : s.vm.method? m = some meth) (h3 : meth.code = some c) (h4 : c.code = bytes)
    (h5 : (c.maxLocals == mx && c.exceptionTable.isEmpty && decide (c.maxStack ≤ mostOperands) && decide (meth.sig.returnType = rt) && !meth.locks && decide (parseMethodDescriptor y.desc = some meth.sig)) = true) : (Jvm.Cond.code y bytes mx rt).before a s = true := by
  simp only [Bool.and_eq_true, beq_iff_eq, Bool.not_eq_true', decide_eq_true_eq] at h5
  obtain ⟨⟨⟨⟨⟨g1, g2⟩, g3⟩, g4⟩, g5⟩, g6⟩ := h5
  simp [Cond.before, Cond.holds, Cond.value, h1, h2, h3, h4, g1, g2, g3, g4, g5, g6]
def isCode : Jvm.Cond → Bool
  | .code _ _ _ _ => true
  | _ => false
theorem all_split {L : List Jvm.Cond} {P : Jvm.Cond → Bool} (h1 : L.all (fun c => isCode c || P c) = true) (h2 : ∀ c ∈ L.filter isCode, P c = true) : L.all P = true := by
  refine List.all_eq_true.mpr fun c hc => ?_
  have h := List.all_eq_true.mp h1 c hc
  rcases Bool.eq_false_or_eq_true (isCode c) with hi | hi
  · exact h2 c (List.mem_filter.mpr ⟨hc, hi⟩)
  · simpa [hi] using h
set_option maxRecDepth 65536 in
theorem w_c0 : (Jvm.Cond.code x code maxLocals ret).before args0 about1 = true := code_word (m := ⟨1, 2⟩) (meth := k1m2) (c := k1c2) (by decide +kernel) rfl rfl rfl (by decide +kernel)
set_option maxRecDepth 65536 in
theorem w_c1 : (Jvm.Cond.code ({ cls := "com/example/winnower/winnower/discrepancy/SimplexMultipliersPinLaw", name := "pow2", desc := "(I)D" } : Jvm.MethodName) method_2_code (3 : Nat) (Option.some Jvm.ClassFile.FieldType.double)).before args0 about1 = true := code_word (m := ⟨1, 1⟩) (meth := k1m1) (c := k1c1) (by decide +kernel) rfl rfl rfl (by decide +kernel)
set_option maxRecDepth 65536 in
theorem w_c2 : (Jvm.Cond.code ({ cls := "com/example/winnower/winnower/discrepancy/Simplex", name := "<init>", desc := "([D)V" } : Jvm.MethodName) prog_41_method_1_code (2 : Nat) (Option.none : Option Jvm.ClassFile.FieldType)).before args0 about1 = true := code_word (m := ⟨2, 0⟩) (meth := k2m0) (c := k2c0) (by decide +kernel) rfl rfl rfl (by decide +kernel)
set_option maxRecDepth 65536 in
theorem w_c3 : (Jvm.Cond.code ({ cls := "java/lang/Object", name := "<init>", desc := "()V" } : Jvm.MethodName) object_method_1_code (1 : Nat) (Option.none : Option Jvm.ClassFile.FieldType)).before args0 about1 = true := code_word (m := ⟨0, 0⟩) (meth := k0m0) (c := k0c0) (by decide +kernel) rfl rfl rfl (by decide +kernel)
set_option maxRecDepth 65536 in
theorem w_c4 : (Jvm.Cond.code ({ cls := "com/example/winnower/winnower/discrepancy/Simplex", name := "add", desc := "(D[I[DZ)I" } : Jvm.MethodName) prog_41_method_2_code (7 : Nat) (Option.some Jvm.ClassFile.FieldType.int)).before args0 about1 = true := code_word (m := ⟨2, 1⟩) (meth := k2m1) (c := k2c1) (by decide +kernel) rfl rfl rfl (by decide +kernel)
set_option maxRecDepth 65536 in
theorem w_c5 : (Jvm.Cond.code ({ cls := "com/example/winnower/winnower/discrepancy/Simplex", name := "start", desc := "([I)Z" } : Jvm.MethodName) prog_41_method_3_code (3 : Nat) (Option.some Jvm.ClassFile.FieldType.boolean)).before args0 about1 = true := code_word (m := ⟨2, 2⟩) (meth := k2m2) (c := k2c2) (by decide +kernel) rfl rfl rfl (by decide +kernel)
set_option maxRecDepth 65536 in
theorem w_c6 : (Jvm.Cond.code ({ cls := "com/example/winnower/winnower/discrepancy/Simplex", name := "refresh", desc := "()Z" } : Jvm.MethodName) prog_41_method_12_code (10 : Nat) (Option.some Jvm.ClassFile.FieldType.boolean)).before args0 about1 = true := code_word (m := ⟨2, 4⟩) (meth := k2m4) (c := k2c4) (by decide +kernel) rfl rfl rfl (by decide +kernel)
set_option maxRecDepth 65536 in
theorem w_c7 : (Jvm.Cond.code ({ cls := "java/util/Arrays", name := "fill", desc := "([DD)V" } : Jvm.MethodName) jdk_65_method_113_code (5 : Nat) (Option.none : Option Jvm.ClassFile.FieldType)).before args0 about1 = true := code_word (m := ⟨4, 1⟩) (meth := k4m1) (c := k4c1) (by decide +kernel) rfl rfl rfl (by decide +kernel)
set_option maxRecDepth 65536 in
theorem w_c8 : (Jvm.Cond.code ({ cls := "java/lang/Math", name := "abs", desc := "(D)D" } : Jvm.MethodName) jdk_29_method_64_code (2 : Nat) (Option.some Jvm.ClassFile.FieldType.double)).before args0 about1 = true := code_word (m := ⟨5, 1⟩) (meth := k5m1) (c := k5c1) (by decide +kernel) rfl rfl rfl (by decide +kernel)
set_option maxRecDepth 65536 in
theorem w_c9 : (Jvm.Cond.code ({ cls := "com/example/winnower/winnower/discrepancy/Simplex", name := "swap", desc := "([[DII)V" } : Jvm.MethodName) prog_41_method_14_code (4 : Nat) (Option.none : Option Jvm.ClassFile.FieldType)).before args0 about1 = true := code_word (m := ⟨2, 6⟩) (meth := k2m6) (c := k2c6) (by decide +kernel) rfl rfl rfl (by decide +kernel)
set_option maxRecDepth 65536 in
theorem w_c10 : (Jvm.Cond.code ({ cls := "com/example/winnower/winnower/discrepancy/Simplex", name := "leastBoundedValue", desc := "()D" } : Jvm.MethodName) prog_41_method_13_code (4 : Nat) (Option.some Jvm.ClassFile.FieldType.double)).before args0 about1 = true := code_word (m := ⟨2, 5⟩) (meth := k2m5) (c := k2c5) (by decide +kernel) rfl rfl rfl (by decide +kernel)
set_option maxRecDepth 65536 in
theorem w_c11 : (Jvm.Cond.code ({ cls := "java/lang/Math", name := "min", desc := "(DD)D" } : Jvm.MethodName) jdk_29_method_72_code (4 : Nat) (Option.some Jvm.ClassFile.FieldType.double)).before args0 about1 = true := code_word (m := ⟨5, 2⟩) (meth := k5m2) (c := k5c2) (by decide +kernel) rfl rfl rfl (by decide +kernel)
set_option maxRecDepth 65536 in
theorem w_c12 : (Jvm.Cond.code ({ cls := "com/example/winnower/winnower/discrepancy/Simplex", name := "multipliers", desc := "()[D" } : Jvm.MethodName) prog_41_method_4_code (6 : Nat) (Option.some (Jvm.ClassFile.FieldType.array Jvm.ClassFile.FieldType.double))).before args0 about1 = true := code_word (m := ⟨2, 3⟩) (meth := k2m3) (c := k2c3) (by decide +kernel) rfl rfl rfl (by decide +kernel)
def codes1 : List Jvm.Cond := [Jvm.Cond.code x code maxLocals ret, Jvm.Cond.code ({ cls := "com/example/winnower/winnower/discrepancy/SimplexMultipliersPinLaw", name := "pow2", desc := "(I)D" } : Jvm.MethodName) method_2_code (3 : Nat) (Option.some Jvm.ClassFile.FieldType.double), Jvm.Cond.code ({ cls := "com/example/winnower/winnower/discrepancy/Simplex", name := "<init>", desc := "([D)V" } : Jvm.MethodName) prog_41_method_1_code (2 : Nat) (Option.none : Option Jvm.ClassFile.FieldType), Jvm.Cond.code ({ cls := "java/lang/Object", name := "<init>", desc := "()V" } : Jvm.MethodName) object_method_1_code (1 : Nat) (Option.none : Option Jvm.ClassFile.FieldType), Jvm.Cond.code ({ cls := "com/example/winnower/winnower/discrepancy/Simplex", name := "add", desc := "(D[I[DZ)I" } : Jvm.MethodName) prog_41_method_2_code (7 : Nat) (Option.some Jvm.ClassFile.FieldType.int), Jvm.Cond.code ({ cls := "com/example/winnower/winnower/discrepancy/Simplex", name := "start", desc := "([I)Z" } : Jvm.MethodName) prog_41_method_3_code (3 : Nat) (Option.some Jvm.ClassFile.FieldType.boolean), Jvm.Cond.code ({ cls := "com/example/winnower/winnower/discrepancy/Simplex", name := "refresh", desc := "()Z" } : Jvm.MethodName) prog_41_method_12_code (10 : Nat) (Option.some Jvm.ClassFile.FieldType.boolean), Jvm.Cond.code ({ cls := "java/util/Arrays", name := "fill", desc := "([DD)V" } : Jvm.MethodName) jdk_65_method_113_code (5 : Nat) (Option.none : Option Jvm.ClassFile.FieldType), Jvm.Cond.code ({ cls := "java/lang/Math", name := "abs", desc := "(D)D" } : Jvm.MethodName) jdk_29_method_64_code (2 : Nat) (Option.some Jvm.ClassFile.FieldType.double), Jvm.Cond.code ({ cls := "com/example/winnower/winnower/discrepancy/Simplex", name := "swap", desc := "([[DII)V" } : Jvm.MethodName) prog_41_method_14_code (4 : Nat) (Option.none : Option Jvm.ClassFile.FieldType), Jvm.Cond.code ({ cls := "com/example/winnower/winnower/discrepancy/Simplex", name := "leastBoundedValue", desc := "()D" } : Jvm.MethodName) prog_41_method_13_code (4 : Nat) (Option.some Jvm.ClassFile.FieldType.double), Jvm.Cond.code ({ cls := "java/lang/Math", name := "min", desc := "(DD)D" } : Jvm.MethodName) jdk_29_method_72_code (4 : Nat) (Option.some Jvm.ClassFile.FieldType.double), Jvm.Cond.code ({ cls := "com/example/winnower/winnower/discrepancy/Simplex", name := "multipliers", desc := "()[D" } : Jvm.MethodName) prog_41_method_4_code (6 : Nat) (Option.some (Jvm.ClassFile.FieldType.array Jvm.ClassFile.FieldType.double))]
set_option maxRecDepth 65536 in
theorem codes_eq : words1.filter isCode = codes1 := rfl
theorem w_codes : ∀ c ∈ words1.filter isCode, c.before args0 about1 = true := by
  rw [codes_eq]
  intro c hc
  simp only [codes1, List.mem_cons, List.not_mem_nil, or_false] at hc
  rcases hc with rfl | rfl | rfl | rfl | rfl | rfl | rfl | rfl | rfl | rfl | rfl | rfl | rfl
  · exact w_c0
  · exact w_c1
  · exact w_c2
  · exact w_c3
  · exact w_c4
  · exact w_c5
  · exact w_c6
  · exact w_c7
  · exact w_c8
  · exact w_c9
  · exact w_c10
  · exact w_c11
  · exact w_c12
set_option maxRecDepth 65536 in
theorem w_t1 : (words1.take 24).all (fun c => isCode c || c.before args0 about1) = true := by decide +kernel
set_option maxRecDepth 65536 in
theorem w_t2 : ((words1.drop 24).take 24).all (fun c => isCode c || c.before args0 about1) = true := by decide +kernel
set_option maxRecDepth 65536 in
theorem w_t3 : (((words1.drop 24).drop 24).take 24).all (fun c => isCode c || c.before args0 about1) = true := by decide +kernel
set_option maxRecDepth 65536 in
theorem w_t4 : ((((words1.drop 24).drop 24).drop 24).take 24).all (fun c => isCode c || c.before args0 about1) = true := by decide +kernel
set_option maxRecDepth 65536 in
theorem w_t5 : ((((words1.drop 24).drop 24).drop 24).drop 24).all (fun c => isCode c || c.before args0 about1) = true := by decide +kernel
theorem w_tables : (allAtoms (Jvm.Cond.code x code maxLocals ret :: tables_1)).before args0 about1 = true := by
  rw [allAtoms_all]
  show words1.all (fun c => c.before args0 about1) = true
  refine all_split ?_ w_codes
  rw [← List.take_append_drop 24 words1, List.all_append, w_t1, ← List.take_append_drop 24 (words1.drop 24), List.all_append, w_t2, ← List.take_append_drop 24 ((words1.drop 24).drop 24), List.all_append, w_t3, ← List.take_append_drop 24 (((words1.drop 24).drop 24).drop 24), List.all_append, w_t4, w_t5]
  rfl
set_option maxRecDepth 65536 in
theorem w_case : (Jvm.Cond.and given_1 narrow_1).before args0 about1 = true := by decide +kernel
theorem w_applies : (headSpec (Jvm.Cond.code x code maxLocals ret :: tables_1) room_1).applies x e0.platform about1 = true :=
  (Spec.applies_iff w_frames).mpr ⟨w_running, w_runnable, w_alone, w_named, w_hears, w_ripe, w_room, w_tables⟩
theorem atStart : AtStart classFile x code maxLocals ret World_1 tables_1 room_1 Calls_1 rest_1 Pre_1 launch0 p0 e0 about1 theMethod args0 below0 :=
  ⟨lists_1, trivial, launch0.admits_env _ _ _, launch0.least_env, fairChoices_fair.cas, fairChoices_fair.clock, w_frames, w_args, w_heap, w_applies, trivial, trivial, w_case⟩
end start1
theorem witness_1 : WitnessClaimed_1 := ⟨start1.p0, start1.e0, start1.about1, start1.theMethod, start1.args0, start1.below0, start1.atStart⟩
end Jvm.Pilot.@@N@@
