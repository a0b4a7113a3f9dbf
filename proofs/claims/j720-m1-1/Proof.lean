import JvmDerived
import JvmDerived.Pilot.@@N@@Statement
import JvmDerived.Pilot.@@N@@Code
set_option linter.unusedVariables false
set_option linter.unusedSimpArgs false
namespace Jvm.Pilot.@@N@@
open Jvm Jvm.ClassFile Sem Op Lib Jvm.Free Jvm.Stand Jvm.LawKit Jvm.RoadKit Bundle Jvm.Free.Fl Jvm.Pilot.@@N@@.Jvm.D
theorem own_w {a0 : Array Value} {Z : State} (hw : ∀ d ∈ tables_1, d.before a0 Z = true) (i : Nat) {d : Jvm.Cond} (h : tables_1[i]? = some d) : d.before a0 Z = true := hw _ (List.mem_of_getElem? h)
abbrev own_S (p : Program) (e : Env) (below : List Frame) (T : State) (m : MethodId) (pc : Nat) (Ls : Array Slot) (st : List Value) (t : State) : Prop := Steps p.tables e below (T.setTop (mkF m pc Ls st)) t
abbrev oI (x : Int32) : Slot := .val (.int x)
abbrev oJ (x : Int64) : Slot := .val (.long x)
abbrev oD (x : UInt64) : Slot := .val (.double x)
abbrev oR (x : Addr) : Slot := .val (.ref x)
abbrev oU : Slot := .unset
abbrev oV : Slot := .second
section Re
variable {tb : Tables} {e : Env} {below : List Frame} {T target : State} {m : MethodId} {pc : Nat} {Ls : Array Slot} {rest : List Value}
theorem reI {x y : Int32} (h : x = y) (k : Steps tb e below (T.setTop (mkF m pc Ls (.int y :: rest))) target) : Steps tb e below (T.setTop (mkF m pc Ls (.int x :: rest))) target := by rw [h]; exact k
theorem reJ {x y : Int64} (h : x = y) (k : Steps tb e below (T.setTop (mkF m pc Ls (.long y :: rest))) target) : Steps tb e below (T.setTop (mkF m pc Ls (.long x :: rest))) target := by rw [h]; exact k
theorem reD {x y : UInt64} (h : x = y) (k : Steps tb e below (T.setTop (mkF m pc Ls (.double y :: rest))) target) : Steps tb e below (T.setTop (mkF m pc Ls (.double x :: rest))) target := by rw [h]; exact k
theorem re2I {v : Value} {x y : Int32} (h : x = y) (k : Steps tb e below (T.setTop (mkF m pc Ls (v :: .int y :: rest))) target) : Steps tb e below (T.setTop (mkF m pc Ls (v :: .int x :: rest))) target := by rw [h]; exact k
theorem own_nnl {e v : UInt64} (h : e = v) (hv : NoNaN64 v) : NoNaN64 e := h ▸ hv
end Re
section OwnFloat
open Jvm.FP
/-- finite, and worth z units of 2^-1074 -/
def own_At (a : UInt64) (z : Int) : Prop := ∃ s c q, Core.val64 a = .fin s c q ∧ Core.signed s (Core.inUnits c q (-1074)) = z
theorem own_at_fin {a : UInt64} {z : Int} (h : own_At a z) : Fin64 a := by
  obtain ⟨s, c, q, h, -⟩ := h
  exact fin64_core.mpr ⟨s, c, q, h⟩
theorem own_at_nn {a : UInt64} {z : Int} (h : own_At a z) : NoNaN64 a := (own_at_fin h).noNaN
theorem own_int {i : Int} {a : UInt64} (h : Core.DInt i a) : own_At a (i * (Core.one64 : Int)) := by
  have hz := Core.DInt_zval h
  unfold Core.DInt at h
  cases e : Core.val64 a with
  | nan => rw [e] at h; exact h.elim
  | inf s => rw [e] at h; exact h.elim
  | fin s c q =>
    refine ⟨s, c, q, e, ?_⟩
    rw [e] at hz
    rw [← hz]
    show _ = Core.signed s (Core.inUnits c q Core.b64.qmin)
    rw [Core.qmin_b64]
end OwnFloat
section OwnInt
theorem own_lmul {x y : Int64} {A B : Nat} (hx : x.toInt.natAbs ≤ A) (hy : y.toInt.natAbs ≤ B) (h : A * B < 2 ^ 62) : (x * y).toInt = x.toInt * y.toInt := by
  have hb : (x.toInt * y.toInt).natAbs ≤ A * B := by rw [Int.natAbs_mul]; exact Nat.mul_le_mul hx hy
  rw [Int64.toInt_mul]; exact Int.bmod_eq_of_le (by omega) (by omega)
theorem own_ladd {x y : Int64} {A B : Nat} (hx : x.toInt.natAbs ≤ A) (hy : y.toInt.natAbs ≤ B) (h : A + B < 2 ^ 62) : (x + y).toInt = x.toInt + y.toInt := by
  rw [Int64.toInt_add]; exact Int.bmod_eq_of_le (by omega) (by omega)
theorem own_maskI {x m : Int32} {k : Nat} (hk : k ≤ 31) (hm : m.toBitVec.toNat = 2 ^ k - 1) : 0 ≤ (x &&& m).toInt ∧ (x &&& m).toInt < ((2 ^ k : Nat) : Int) := by
  rw [c_mask x m k hk hm]
  have p : (0 : Int) < ((2 ^ k : Nat) : Int) := by have := Nat.two_pow_pos k; omega
  exact ⟨Int.emod_nonneg _ (by omega), Int.emod_lt_of_pos _ p⟩
theorem own_cases32 {x : Int32} {n : Nat} (h0 : 0 ≤ x.toInt) (h1 : x.toInt < (n : Int)) : ∃ k : Nat, k < n ∧ x = Int32.ofNat k := by
  refine ⟨x.toInt.toNat, by omega, ?_⟩
  apply Int32.toInt_inj.mp
  have hx := x.toInt_lt
  rw [Int32.toInt_ofNat_of_lt (by omega)]
  omega
theorem own_irem {x z m : Int32} (h : z = x % m) {M : Int} (hm : m.toInt = M) (hM : 0 < M) : -M < z.toInt ∧ z.toInt < M ∧ (0 ≤ x.toInt → 0 ≤ z.toInt) := by
  have q := c_irem x m M hm
  rcases (by omega : x.toInt < 0 ∨ 0 ≤ x.toInt) with a | a
  · have := q.2 a; rw [← h] at this
    have b1 := Int.emod_nonneg (-x.toInt) (show M ≠ 0 by omega); have b2 := Int.emod_lt_of_pos (-x.toInt) hM
    omega
  · have := q.1 a; rw [← h] at this
    have b1 := Int.emod_nonneg x.toInt (show M ≠ 0 by omega); have b2 := Int.emod_lt_of_pos x.toInt hM
    omega
end OwnInt
theorem own_D0 : FP.Core.DInt 0 (0 : UInt64) := by
  have h := FP.Core.i2d_int (0 : Int32)
  rw [show FP.Core.i2d 0 = 0 by decide +kernel] at h
  exact h
abbrev own_HW (Z : State) (a0 : Array Value) : Prop := ∀ d ∈ tables_1, d.before a0 Z = true
abbrev k1 : ByteArray := jdk_38_method_2_code
abbrev k2 : ByteArray := jdk_39_method_1_code
abbrev k5 : ByteArray := method_3_code
abbrev k6 : ByteArray := method_2_code
abbrev k7 : ByteArray := jdk_117_method_4_code
abbrev k8 : ByteArray := jdk_117_method_9_code
abbrev k10 : ByteArray := jdk_38_method_25_code
abbrev k11 : ByteArray := jdk_38_method_24_code
abbrev k12 : ByteArray := jdk_38_method_7_code
abbrev k13 : ByteArray := jdk_38_method_6_code
abbrev k14 : ByteArray := jdk_29_method_65_code
abbrev k15 : ByteArray := prog_29_method_1_code
abbrev k17 : ByteArray := jdk_31_method_11_code
abbrev k18 : ByteArray := jdk_38_method_9_code
abbrev k19 : ByteArray := jdk_38_method_20_code
abbrev k20 : ByteArray := jdk_31_method_17_code
abbrev k21 : ByteArray := jdk_41_method_11_code
abbrev k22 : ByteArray := jdk_38_method_18_code
abbrev k24 : ByteArray := jdk_38_method_1_code
abbrev k25 : ByteArray := jdk_38_method_55_code
abbrev k26 : ByteArray := jdk_49_method_1_code
abbrev k27 : ByteArray := jdk_49_method_2_code
abbrev k28 : ByteArray := jdk_49_method_3_code
abbrev k29 : ByteArray := jdk_49_method_6_code
abbrev k31 : ByteArray := jdk_117_method_8_code
abbrev k34 : ByteArray := jdk_56_method_3_code
abbrev k35 : ByteArray := jdk_38_method_16_code
abbrev k36 : ByteArray := jdk_65_method_119_code
abbrev k37 : ByteArray := jdk_65_method_120_code
abbrev k38 : ByteArray := jdk_29_method_69_code
abbrev k39 : ByteArray := jdk_40_method_47_code
abbrev k40 : ByteArray := jdk_56_method_4_code
abbrev k41 : ByteArray := jdk_31_method_10_code
abbrev k42 : ByteArray := jdk_45_method_1_code
abbrev k45 : ByteArray := jdk_44_method_2_code
abbrev k46 : ByteArray := prog_26_method_1_code
abbrev k48 : ByteArray := jdk_44_method_3_code
abbrev k49 : ByteArray := jdk_44_method_5_code
abbrev k50 : ByteArray := jdk_45_method_3_code
abbrev k51 : ByteArray := jdk_29_method_43_code
abbrev k52 : ByteArray := jdk_46_method_10_code
abbrev k53 : ByteArray := jdk_53_method_1_code
abbrev k54 : ByteArray := jdk_53_method_3_code
abbrev k55 : ByteArray := jdk_53_method_4_code
abbrev k56 : ByteArray := jdk_45_method_4_code
abbrev k57 : ByteArray := prog_26_method_14_code
abbrev k58 : ByteArray := prog_26_method_6_code
abbrev kAL : String := "java/util/ArrayList"
abbrev kABL : String := "java/util/AbstractList"
abbrev kOB : String := "java/lang/Object"
abbrev kMO : String := "com/example/matchwright/matchwright/core/MatchObject"
abbrev kIV : String := "com/example/matchwright/matchwright/core/InstanceVectors"
abbrev kL12 : String := "java/util/ImmutableCollections$List12"
abbrev kLN : String := "java/util/ImmutableCollections$ListN"
abbrev kLIT : String := "java/util/ImmutableCollections$ListItr"
abbrev kITR : String := "java/util/ArrayList$Itr"
abbrev kOA : String := "[Ljava/lang/Object;"
abbrev kDB : String := "java/lang/Double"
section OwnCalls
variable {p : Program} {l : Launch} {e : Env} {R : Room} {s : State} {m : MethodId} {args : Array Value} {below : List Frame} {meth : Method} {c : Code} {T Z : State} {locs : List Loc} {cells slots : Nat} {a0 : Array Value} {h : Heap}
abbrev own_Mt (l : Launch) (Z : State) (h : Heap) (y : MethodName) (w : Jvm.Cond) (rm : Room) (as' : Array Value) (Q : Option Value → Heap → List Loc → Prop) : Prop := MetFree l y (head1 [w] rm) (fun a U => a = as' ∧ Z.Warmed39 U.vm ∧ U.heap = h) (fun _ _ _ _ _ => True) (fun _ U o U' => ∃ v L, o = .returned v ∧ Q v U'.heap L ∧ FrameEnd U o U' L rm.cells rm.slots)
abbrev own_Out (p : Program) (l : Launch) (e : Env) (R : Room) (s : State) (m : MethodId) (args : Array Value) (below : List Frame) (meth : Method) (c : Code) (T : State) (locs : List Loc) (cN sN : Nat) (Q : Option Value → Heap → List Loc → Prop) (g : JFrame) (k : Nat) (rest : List Value) : Prop :=
  ∃ (v : Option Value) (T' : State) (L : List Loc), Stand p l e R s m args below meth c T' (locs ++ L) cN sN ∧ Q v T'.heap L ∧ Steps p.tables e below (T.setTop g) (T'.setTop { g with pc := g.pc + k, stack := v.toList ++ rest })
theorem own_cI (X : Stand p l e R s m args below meth c T locs cells slots) (hx : p.tables.exec = Jvm.exec) (hZ : Z.Warmed39 s.vm) (hw : own_HW Z a0) {own C : String} {index count : Nat} {xi y : MethodName} {b : Addr} (hown : s.vm.findClass own = some m.cls) {bytes : ByteArray} {maxL : Nat} {ret : Option FieldType} {rm : Room} {W : Nat} {as' : Array Value} {Q : Option Value → Heap → List Loc → Prop} (hM : own_Mt l Z h y (.code y bytes maxL ret) rm as' Q) (hf : rm.frames + 1 ≤ R.frames) (hl : W + (maxL + 11) + rm.locals ≤ R.locals) (hq : xi.cls ≠ "java/lang/invoke/MethodHandle" ∧ xi.cls ≠ "java/lang/invoke/VarHandle") (i1 : Nat) (w1 : tables_1[i1]? = some (Jvm.Cond.methodLink own index xi)) (i2 : Nat) (w2 : tables_1[i2]? = some (Jvm.Cond.declares xi)) (i3 : Nat) (w3 : tables_1[i3]? = some (Jvm.Cond.interfaceMethod xi.cls xi.cls xi.name xi.desc)) (i4 : Nat) (w4 : tables_1[i4]? = some (Jvm.Cond.selects C xi y)) (i5 : Nat) (w5 : tables_1[i5]? = some (Jvm.Cond.instanceMethod y)) (i6 : Nat) (w6 : tables_1[i6]? = some (Jvm.Cond.publicMethod y)) (i7 : Nat) (w7 : tables_1[i7]? = some (Jvm.Cond.unhidden C xi.name xi.desc)) (i8 : Nat) (w8 : tables_1[i8]? = some (Jvm.Cond.castable C xi.cls)) (i9 : Nat) (w9 : tables_1[i9]? = some (Jvm.Cond.code y bytes maxL ret)) (i10 : Nat) (w10 : tables_1[i10]? = some (Jvm.Cond.initialized y.cls)) (eT : T.heap = h) (F : Exa Z h b C) {g : JFrame} (hg : g.method = m) (hsize : g.locals.size = c.maxLocals) {argsL rest : List Value} (hlen : ∀ sig, parseMethodDescriptor xi.desc = some sig → argsL.length = sig.parameters.length) (hstack : g.stack = argsL.reverse ++ .ref b :: rest) (hW : 2 * g.monitorRoom + (rest.map fun v => v.category).sum ≤ W) (hdg : decode c.code g.pc = .ok (.invokeinterface index count, 5)) (has : (.ref b :: argsL).toArray = as') {cN sN : Nat} (hc : cells + rm.cells = cN) (hcl : cN ≤ R.cells) (hs' : slots + rm.slots = sN) (hsl : sN ≤ R.slots) :
    own_Out p l e R s m args below meth c T locs cN sN Q g 5 rest := by
  obtain ⟨cB, kB, a1, a2, a3⟩ := isOf hZ eT F
  obtain ⟨v, vm1, ⟨T', L', k', n'⟩, -, X', ⟨L, hQ, l1, l2, l3⟩, st⟩ := X.interfaceBack hx hown (mvT hZ (own_w hw i1 w1)) (mvT hZ (own_w hw i2 w2)) (mvT hZ (own_w hw i3 w3) (by simp [Cond.onTables, Cond.keepsFace, Cond.keeps, Cond.steady, Cond.faceAtom, hq.1, hq.2])) (mvT hZ (own_w hw i4 w4)) (mvT hZ (own_w hw i5 w5)) (mvT hZ (own_w hw i6 w6)) (mvT hZ (own_w hw i7 w7)) (mvT hZ (own_w hw i8 w8)) hq (backOf (W := W) hM hZ (own_w hw i9 w9) (own_w hw i10 w10) hf hl) a1 a2 a3 hg hsize (Steps.refl _) hlen hstack hW hdg (fun _ _ => ⟨has, eT, Nat.le_trans (Nat.le_of_eq hc) hcl, Nat.le_trans (Nat.le_of_eq hs') hsl⟩)
  dsimp only [Pt.U, Pt.locs, Pt.cells, Pt.slots] at X' l1 l2 l3 st hQ
  subst l1 l2 l3 hc hs'
  exact ⟨v, T', L, X', hQ, st⟩
theorem own_cIW (X : Stand p l e R s m args below meth c T locs cells slots) (hx : p.tables.exec = Jvm.exec) (hZ : Z.Warmed39 s.vm) (hw : own_HW Z a0) {own C : String} {index count : Nat} {xi y : MethodName} {b : Addr} (hown : s.vm.findClass own = some m.cls) {bytes : ByteArray} {maxL : Nat} {ret : Option FieldType} {hs : List (Nat × Nat × Nat × Nat)} {rm : Room} {W : Nat} {as' : Array Value} {Q : Option Value → Heap → List Loc → Prop} (hM : own_Mt l Z h y (.codeWith y bytes maxL ret hs) rm as' Q) (hf : rm.frames + 1 ≤ R.frames) (hl : W + (maxL + 11) + rm.locals ≤ R.locals) (hq : xi.cls ≠ "java/lang/invoke/MethodHandle" ∧ xi.cls ≠ "java/lang/invoke/VarHandle") (i1 : Nat) (w1 : tables_1[i1]? = some (Jvm.Cond.methodLink own index xi)) (i2 : Nat) (w2 : tables_1[i2]? = some (Jvm.Cond.declares xi)) (i3 : Nat) (w3 : tables_1[i3]? = some (Jvm.Cond.interfaceMethod xi.cls xi.cls xi.name xi.desc)) (i4 : Nat) (w4 : tables_1[i4]? = some (Jvm.Cond.selects C xi y)) (i5 : Nat) (w5 : tables_1[i5]? = some (Jvm.Cond.instanceMethod y)) (i6 : Nat) (w6 : tables_1[i6]? = some (Jvm.Cond.publicMethod y)) (i7 : Nat) (w7 : tables_1[i7]? = some (Jvm.Cond.unhidden C xi.name xi.desc)) (i8 : Nat) (w8 : tables_1[i8]? = some (Jvm.Cond.castable C xi.cls)) (i9 : Nat) (w9 : tables_1[i9]? = some (Jvm.Cond.codeWith y bytes maxL ret hs)) (i10 : Nat) (w10 : tables_1[i10]? = some (Jvm.Cond.initialized y.cls)) (eT : T.heap = h) (F : Exa Z h b C) {g : JFrame} (hg : g.method = m) (hsize : g.locals.size = c.maxLocals) {argsL rest : List Value} (hlen : ∀ sig, parseMethodDescriptor xi.desc = some sig → argsL.length = sig.parameters.length) (hstack : g.stack = argsL.reverse ++ .ref b :: rest) (hW : 2 * g.monitorRoom + (rest.map fun v => v.category).sum ≤ W) (hdg : decode c.code g.pc = .ok (.invokeinterface index count, 5)) (has : (.ref b :: argsL).toArray = as') {cN sN : Nat} (hc : cells + rm.cells = cN) (hcl : cN ≤ R.cells) (hs' : slots + rm.slots = sN) (hsl : sN ≤ R.slots) :
    own_Out p l e R s m args below meth c T locs cN sN Q g 5 rest := by
  obtain ⟨cB, kB, a1, a2, a3⟩ := isOf hZ eT F
  obtain ⟨v, vm1, ⟨T', L', k', n'⟩, -, X', ⟨L, hQ, l1, l2, l3⟩, st⟩ := X.interfaceBack hx hown (mvT hZ (own_w hw i1 w1)) (mvT hZ (own_w hw i2 w2)) (mvT hZ (own_w hw i3 w3) (by simp [Cond.onTables, Cond.keepsFace, Cond.keeps, Cond.steady, Cond.faceAtom, hq.1, hq.2])) (mvT hZ (own_w hw i4 w4)) (mvT hZ (own_w hw i5 w5)) (mvT hZ (own_w hw i6 w6)) (mvT hZ (own_w hw i7 w7)) (mvT hZ (own_w hw i8 w8)) hq (backOfWith (W := W) hM hZ (own_w hw i9 w9) (own_w hw i10 w10) hf hl) a1 a2 a3 hg hsize (Steps.refl _) hlen hstack hW hdg (fun _ _ => ⟨has, eT, Nat.le_trans (Nat.le_of_eq hc) hcl, Nat.le_trans (Nat.le_of_eq hs') hsl⟩)
  dsimp only [Pt.U, Pt.locs, Pt.cells, Pt.slots] at X' l1 l2 l3 st hQ
  subst l1 l2 l3 hc hs'
  exact ⟨v, T', L, X', hQ, st⟩
theorem own_cV (X : Stand p l e R s m args below meth c T locs cells slots) (hx : p.tables.exec = Jvm.exec) (hZ : Z.Warmed39 s.vm) (hw : own_HW Z a0) {own C : String} {index : Nat} {y : MethodName} {b : Addr} (hown : s.vm.findClass own = some m.cls) {bytes : ByteArray} {maxL : Nat} {ret : Option FieldType} {rm : Room} {W : Nat} {as' : Array Value} {Q : Option Value → Heap → List Loc → Prop} (hM : own_Mt l Z h y (.code y bytes maxL ret) rm as' Q) (hf : rm.frames + 1 ≤ R.frames) (hl : W + (maxL + 11) + rm.locals ≤ R.locals) (hq : y.cls ≠ "java/lang/invoke/MethodHandle" ∧ y.cls ≠ "java/lang/invoke/VarHandle") (i1 : Nat) (w1 : tables_1[i1]? = some (Jvm.Cond.methodLink own index y)) (i2 : Nat) (w2 : tables_1[i2]? = some (Jvm.Cond.declares y)) (i3 : Nat) (w3 : tables_1[i3]? = some (Jvm.Cond.selects C y y)) (i4 : Nat) (w4 : tables_1[i4]? = some (Jvm.Cond.instanceMethod y)) (i5 : Nat) (w5 : tables_1[i5]? = some (Jvm.Cond.code y bytes maxL ret)) (i6 : Nat) (w6 : tables_1[i6]? = some (Jvm.Cond.initialized y.cls)) (eT : T.heap = h) (F : Exa Z h b C) {g : JFrame} (hg : g.method = m) (hsize : g.locals.size = c.maxLocals) {argsL rest : List Value} (hlen : ∀ sig, parseMethodDescriptor y.desc = some sig → argsL.length = sig.parameters.length) (hstack : g.stack = argsL.reverse ++ .ref b :: rest) (hW : 2 * g.monitorRoom + (rest.map fun v => v.category).sum ≤ W) (hdg : decode c.code g.pc = .ok (.invokevirtual index, 3)) (has : (.ref b :: argsL).toArray = as') {cN sN : Nat} (hc : cells + rm.cells = cN) (hcl : cN ≤ R.cells) (hs' : slots + rm.slots = sN) (hsl : sN ≤ R.slots) :
    own_Out p l e R s m args below meth c T locs cN sN Q g 3 rest := by
  obtain ⟨cB, kB, a1, a2, a3⟩ := isOf hZ eT F
  obtain ⟨v, vm1, ⟨T', L', k', n'⟩, -, X', ⟨L, hQ, l1, l2, l3⟩, st⟩ := X.virtualBack hx hown (mvT hZ (own_w hw i1 w1)) (mvT hZ (own_w hw i2 w2)) (notFace_of_selects (args := #[]) (mvT hZ (own_w hw i3 w3))) (mvT hZ (own_w hw i3 w3)) (mvT hZ (own_w hw i4 w4)) hq (backOf (W := W) hM hZ (own_w hw i5 w5) (own_w hw i6 w6) hf hl) a1 a3 hg hsize (Steps.refl _) hlen hstack hW hdg (fun _ _ => ⟨has, eT, Nat.le_trans (Nat.le_of_eq hc) hcl, Nat.le_trans (Nat.le_of_eq hs') hsl⟩)
  dsimp only [Pt.U, Pt.locs, Pt.cells, Pt.slots] at X' l1 l2 l3 st hQ
  subst l1 l2 l3 hc hs'
  exact ⟨v, T', L, X', hQ, st⟩
theorem own_cP (X : Stand p l e R s m args below meth c T locs cells slots) (hx : p.tables.exec = Jvm.exec) (hZ : Z.Warmed39 s.vm) (hw : own_HW Z a0) {own C : String} {index : Nat} {y : MethodName} {b : Addr} (hown : s.vm.findClass own = some m.cls) {bytes : ByteArray} {maxL : Nat} {ret : Option FieldType} {rm : Room} {W : Nat} {as' : Array Value} {Q : Option Value → Heap → List Loc → Prop} (hM : own_Mt l Z h y (.code y bytes maxL ret) rm as' Q) (hf : rm.frames + 1 ≤ R.frames) (hl : W + (maxL + 11) + rm.locals ≤ R.locals) (hq : y.cls ≠ "java/lang/invoke/MethodHandle" ∧ y.cls ≠ "java/lang/invoke/VarHandle") (i1 : Nat) (w1 : tables_1[i1]? = some (Jvm.Cond.methodLink own index y)) (i2 : Nat) (w2 : tables_1[i2]? = some (Jvm.Cond.instanceMethod y)) (i3 : Nat) (w3 : tables_1[i3]? = some (Jvm.Cond.privateMethod y)) (i4 : Nat) (w4 : tables_1[i4]? = some (Jvm.Cond.code y bytes maxL ret)) (i5 : Nat) (w5 : tables_1[i5]? = some (Jvm.Cond.initialized y.cls)) (hsel : (Jvm.Cond.selects y.cls y y).before a0 Z = true) (eT : T.heap = h) (F : Exa Z h b C) {g : JFrame} (hg : g.method = m) (hsize : g.locals.size = c.maxLocals) {argsL rest : List Value} (hlen : ∀ sig, parseMethodDescriptor y.desc = some sig → argsL.length = sig.parameters.length) (hstack : g.stack = argsL.reverse ++ .ref b :: rest) (hW : 2 * g.monitorRoom + (rest.map fun v => v.category).sum ≤ W) (hdg : decode c.code g.pc = .ok (.invokevirtual index, 3)) (has : (.ref b :: argsL).toArray = as') {cN sN : Nat} (hc : cells + rm.cells = cN) (hcl : cN ≤ R.cells) (hs' : slots + rm.slots = sN) (hsl : sN ≤ R.slots) :
    own_Out p l e R s m args below meth c T locs cN sN Q g 3 rest := by
  obtain ⟨cq, q1, q2⟩ := F.cell
  obtain ⟨v, vm1, ⟨T', L', k', n'⟩, -, X', ⟨L, hQ, l1, l2, l3⟩, st⟩ := X.privateBack hx hown (mvT hZ (own_w hw i1 w1)) (mvT hZ (own_w hw i2 w2)) (mvT hZ hsel) (Cond.privateMethod_at (mvP hZ (own_w hw i3 w3) (args := #[]))) (mvT hZ (own_w hw i4 w4)) hq (backOf (W := W) hM hZ (own_w hw i4 w4) (own_w hw i5 w5) hf hl) hg hsize (Steps.refl _) (by rw [eT]; exact q1) q2 hlen hstack hW hdg (fun _ _ => ⟨has, eT, Nat.le_trans (Nat.le_of_eq hc) hcl, Nat.le_trans (Nat.le_of_eq hs') hsl⟩)
  dsimp only [Pt.U, Pt.locs, Pt.cells, Pt.slots] at X' l1 l2 l3 st hQ
  subst l1 l2 l3 hc hs'
  exact ⟨v, T', L, X', hQ, st⟩
theorem own_cS (X : Stand p l e R s m args below meth c T locs cells slots) (hx : p.tables.exec = Jvm.exec) (hZ : Z.Warmed39 s.vm) (hw : own_HW Z a0) {own : String} {index : Nat} {y : MethodName} (hown : s.vm.findClass own = some m.cls) {bytes : ByteArray} {maxL : Nat} {ret : Option FieldType} {rm : Room} {W : Nat} {as' : Array Value} {Q : Option Value → Heap → List Loc → Prop} (hM : own_Mt l Z h y (.code y bytes maxL ret) rm as' Q) (hf : rm.frames + 1 ≤ R.frames) (hl : W + (maxL + 11) + rm.locals ≤ R.locals) (hq : y.cls ≠ "java/lang/invoke/MethodHandle" ∧ y.cls ≠ "java/lang/invoke/VarHandle") (i1 : Nat) (w1 : tables_1[i1]? = some (Jvm.Cond.methodLink own index y)) (i2 : Nat) (w2 : tables_1[i2]? = some (Jvm.Cond.static y)) (i3 : Nat) (w3 : tables_1[i3]? = some (Jvm.Cond.initialized y.cls)) (i4 : Nat) (w4 : tables_1[i4]? = some (Jvm.Cond.code y bytes maxL ret)) (eT : T.heap = h) {g : JFrame} (hg : g.method = m) (hsize : g.locals.size = c.maxLocals) {argsL rest : List Value} (hlen : ∀ sig, parseMethodDescriptor y.desc = some sig → argsL.length = sig.parameters.length) (hstack : g.stack = argsL.reverse ++ rest) (hW : 2 * g.monitorRoom + (rest.map fun v => v.category).sum ≤ W) (hdg : decode c.code g.pc = .ok (.invokestatic index, 3)) (has : argsL.toArray = as') {cN sN : Nat} (hc : cells + rm.cells = cN) (hcl : cN ≤ R.cells) (hs' : slots + rm.slots = sN) (hsl : sN ≤ R.slots) :
    own_Out p l e R s m args below meth c T locs cN sN Q g 3 rest := by
  obtain ⟨v, vm1, ⟨T', L', k', n'⟩, -, X', ⟨L, hQ, l1, l2, l3⟩, st⟩ := Jvm.LawKit.callS X hx hown (mvT hZ (own_w hw i1 w1)) (mvT hZ (own_w hw i2 w2)) (mvT hZ (own_w hw i3 w3)) (mvT hZ (own_w hw i4 w4)) hq (backOf (W := W) hM hZ (own_w hw i4 w4) (own_w hw i3 w3) hf hl) hg hsize hlen hstack hW hdg (fun _ _ => ⟨has, eT, Nat.le_trans (Nat.le_of_eq hc) hcl, Nat.le_trans (Nat.le_of_eq hs') hsl⟩)
  dsimp only [Pt.U, Pt.locs, Pt.cells, Pt.slots] at X' l1 l2 l3 st hQ
  subst l1 l2 l3 hc hs'
  exact ⟨v, T', L, X', hQ, st _ (Steps.refl _)⟩
theorem own_cC (X : Stand p l e R s m args below meth c T locs cells slots) (hx : p.tables.exec = Jvm.exec) (hZ : Z.Warmed39 s.vm) (hw : own_HW Z a0) {own : String} {index : Nat} {y : MethodName} {b : Addr} (hown : s.vm.findClass own = some m.cls) {bytes : ByteArray} {maxL : Nat} {rm : Room} {W : Nat} {as' : Array Value} {Q : Option Value → Heap → List Loc → Prop} (hM : own_Mt l Z h y (.code y bytes maxL none) rm as' Q) (hf : rm.frames + 1 ≤ R.frames) (hl : W + (maxL + 11) + rm.locals ≤ R.locals) (hq : y.cls ≠ "java/lang/invoke/MethodHandle" ∧ y.cls ≠ "java/lang/invoke/VarHandle") (hi : y.name = "<init>") (i1 : Nat) (w1 : tables_1[i1]? = some (Jvm.Cond.methodLink own index y)) (i2 : Nat) (w2 : tables_1[i2]? = some (Jvm.Cond.instanceMethod y)) (i3 : Nat) (w3 : tables_1[i3]? = some (Jvm.Cond.code y bytes maxL none)) (i4 : Nat) (w4 : tables_1[i4]? = some (Jvm.Cond.initialized y.cls)) (eT : T.heap = h) {g : JFrame} (hg : g.method = m) (hsize : g.locals.size = c.maxLocals) {argsL rest : List Value} (hlen : ∀ sig, parseMethodDescriptor y.desc = some sig → argsL.length = sig.parameters.length) (hstack : g.stack = argsL.reverse ++ .ref b :: rest) (hW : 2 * g.monitorRoom + (rest.map fun v => v.category).sum ≤ W) (hdg : decode c.code g.pc = .ok (.invokespecial index, 3)) (has : (.ref b :: argsL).toArray = as') {cN sN : Nat} (hc : cells + rm.cells = cN) (hcl : cN ≤ R.cells) (hs' : slots + rm.slots = sN) (hsl : sN ≤ R.slots) :
    own_Out p l e R s m args below meth c T locs cN sN Q g 3 rest := by
  obtain ⟨v, vm1, ⟨T', L', k', n'⟩, -, X', ⟨L, hQ, l1, l2, l3⟩, st⟩ := X.specialBack hx hi hown (mvT hZ (own_w hw i1 w1)) (mvT hZ (own_w hw i2 w2)) (mvT hZ (own_w hw i3 w3)) hq (backOf (W := W) hM hZ (own_w hw i3 w3) (own_w hw i4 w4) hf hl) hg hsize (Steps.refl _) hlen hstack hW hdg (fun _ _ => ⟨has, eT, Nat.le_trans (Nat.le_of_eq hc) hcl, Nat.le_trans (Nat.le_of_eq hs') hsl⟩)
  dsimp only [Pt.U, Pt.locs, Pt.cells, Pt.slots] at X' l1 l2 l3 st hQ
  subst l1 l2 l3 hc hs'
  exact ⟨v, T', L, X', hQ, st⟩
end OwnCalls
theorem d3_0 : decode jdk_22_method_1_code 0 = .ok (.aload_n 0, 1) := by decide +kernel
theorem d3_1 : decode jdk_22_method_1_code 1 = .ok (.invokespecial 1, 3) := by decide +kernel
theorem d3_4 : decode jdk_22_method_1_code 4 = .ok (.return_, 1) := by decide +kernel
theorem pn0 : plainName "java/util/AbstractCollection" = true := by first | (simp [plainName, overriddenIn]; done) | decide +kernel
theorem efm3 (m : MethodId) (r0 : Addr) : entryFrame m #[(.ref r0)] 1 = mkF m 0 #[oR r0] [] := by first | (simp [entryFrame, mkF, argsToLocals, Value.category]; done) | rfl
def Qm3 (Z : State) (r0 : Addr) (h0 : Heap) (n0 : Nat) (v : Option Value) (h : Heap) (L : List Loc) : Prop := v = none ∧ Fr n0 L ∧ (h = h0)
set_option maxRecDepth 65536 in
set_option maxHeartbeats 40000000 in
theorem rmm3 (l : Launch) (Z : State) (a0 : Array Value) (hw : own_HW Z a0) (ws : List Jvm.Cond) (r0 : Addr) (h0 : Heap) (n0 : Nat) (Z0 : n0 ≤ h0.size)  :
    MetFree l (⟨"java/util/AbstractCollection", "<init>", "()V"⟩ : MethodName) (head1 (Jvm.Cond.code (⟨"java/util/AbstractCollection", "<init>", "()V"⟩ : MethodName) jdk_22_method_1_code 1 none :: ws) ({ frames := 1, cells := 0, slots := 0, locals := 12 } : Room)) (fun a U => a = #[(.ref r0)] ∧ Z.Warmed39 U.vm ∧ U.heap = h0) (fun _ _ _ _ _ => True) (fun _ U o U' => ∃ v L, o = .returned v ∧ Qm3 Z r0 h0 n0 v U'.heap L ∧ FrameEnd U o U' L ({ frames := 1, cells := 0, slots := 0, locals := 12 } : Room).cells ({ frames := 1, cells := 0, slots := 0, locals := 12 } : Room).slots) := by
  refine MetFree.of_bodySF (plainFor_of_name pn0) hisR ?_
  intro p e s m args below meth c s₁ Bd hml0 hP hK
  obtain ⟨rfl, hZ, hh⟩ := hP
  have hx := Bd.exec
  have hby := Bd.bytes
  have hml : c.maxLocals = 1 := hml0
  have hown : s.vm.findClass "java/util/AbstractCollection" = some m.cls := findClass_of_methodNamed Bd.named
  have hnm := (name_of_methodNamed Bd.named Bd.method).1
  have X0 : Stand p l e ({ frames := 1, cells := 0, slots := 0, locals := 12 } : Room) s m #[(.ref r0)] below meth c s₁ [] 0 0 := Stand.of_body Bd
  have e0 : s₁.heap = h0 := by rw [← hh, Bd.state]; rfl
  have N0 := Fr.nil n0
  have pre0 : ∀ t, Steps p.tables e below (s₁.setTop (mkF m 0 #[oR r0] [])) t → Steps p.tables e below (s₁.setTop (entryFrame m #[(.ref r0)] 1)) t := fun t k => castTop (efm3 m r0) k
  obtain ⟨T101, X101, e101, st101⟩ := initO X0 hx hZ hown (own_w hw 18 rfl) (own_w hw 19 rfl) (own_w hw 20 rfl) e0 (g := (mkF m 1 #[oR r0] [(.ref r0)])) rfl (by rw [hml]; rfl) rfl (hb hby d3_1) (by decide) (W := 0) (by show 2 * 0 + _ ≤ _; exact Nat.le_of_eq rfl) (by decide)
  obtain ⟨fs, hr, hrun, hended, hW, hsame⟩ := X101.leave (v := none) (fun _ => rfl)
  refine ⟨_, _, pre0 _ ?_, hrun, hended, _, _, rfl, ?_, ⟨_, rfl⟩, hW, hsame.mono (by decide) (by decide)⟩
  · show own_S p e below s₁ m 0 #[oR r0] [] _
    refine XS.aloadN X0.here hx rfl (hb hby d3_0) rfl rfl ?_
    show own_S p e below s₁ m 1 _ [(.ref r0)] _
    refine st101 _ ?_
    show own_S p e below T101 m 4 _ [] _
    exact X101.returnOut hx Bd.returns (hb hby d3_4) hr
  · show Qm3 Z r0 h0 n0 _ T101.heap _
    rw [e101]
    exact ⟨rfl, N0, rfl⟩
theorem pd0 : parseMethodDescriptor "()V" = some ⟨[], none⟩ := by decide +kernel
theorem sn0 {Z : State} {a0 : Array Value} (hw : own_HW Z a0) : Jvm.RoadKit.slotOf Z kAL "elementData" kOA ≠ Jvm.RoadKit.slotOf Z kABL "modCount" "I" := slot_ne (Or.inl (own_w hw 25 rfl)) (Or.inl (own_w hw 22 rfl)) (by decide) (t := (.array (.object kOB))) (t' := .int) (by decide) (by decide)
theorem sn1 {Z : State} {a0 : Array Value} (hw : own_HW Z a0) : Jvm.RoadKit.slotOf Z kAL "size" "I" ≠ Jvm.RoadKit.slotOf Z kABL "modCount" "I" := slot_ne (Or.inl (own_w hw 64 rfl)) (Or.inl (own_w hw 22 rfl)) (by decide) (t := .int) (t' := .int) (by decide) (by decide)
theorem d2_0 : decode k2 0 = .ok (.aload_n 0, 1) := by decide +kernel
theorem d2_1 : decode k2 1 = .ok (.invokespecial 1, 3) := by decide +kernel
theorem d2_4 : decode k2 4 = .ok (.aload_n 0, 1) := by decide +kernel
theorem d2_5 : decode k2 5 = .ok (.iconst 0, 1) := by decide +kernel
theorem d2_6 : decode k2 6 = .ok (.putfield 7, 3) := by decide +kernel
theorem d2_9 : decode k2 9 = .ok (.return_, 1) := by decide +kernel
theorem pn1 : plainName kABL = true := by first | (simp [plainName, overriddenIn]; done) | decide +kernel
theorem efm2 (m : MethodId) (r0 : Addr) : entryFrame m #[(.ref r0)] 1 = mkF m 0 #[oR r0] [] := by first | (simp [entryFrame, mkF, argsToLocals, Value.category]; done) | rfl
def Qm2 (Z : State) (r0 : Addr) (w0 : Value) (w1 : Value) (w2 : Value) (h0 : Heap) (n0 : Nat) (v : Option Value) (h : Heap) (L : List Loc) : Prop := v = none ∧ Fr n0 L ∧ (Keep h0 h [r0]) ∧ (Fld Z h r0 kAL "elementData" kOA w0) ∧ (Fld Z h r0 kAL "size" "I" w1) ∧ (Fld Z h r0 kABL "modCount" "I" (.int 0))
set_option maxRecDepth 65536 in
set_option maxHeartbeats 40000000 in
theorem rmm2 (l : Launch) (Z : State) (a0 : Array Value) (hw : own_HW Z a0) (ws : List Jvm.Cond) (r0 : Addr) (w0 : Value) (w1 : Value) (w2 : Value) (h0 : Heap) (n0 : Nat) (Z0 : n0 ≤ h0.size) (E_r0 : Exa Z h0 r0 kAL) (g_r0 : n0 ≤ r0) (F_elementData_r0 : Fld Z h0 r0 kAL "elementData" kOA w0) (F_size_r0 : Fld Z h0 r0 kAL "size" "I" w1) (F_modCount_r0 : Fld Z h0 r0 kABL "modCount" "I" w2) :
    MetFree l (⟨kABL, "<init>", "()V"⟩ : MethodName) (head1 (Jvm.Cond.code (⟨kABL, "<init>", "()V"⟩ : MethodName) jdk_39_method_1_code 1 none :: ws) ({ frames := 2, cells := 0, slots := 0, locals := 24 } : Room)) (fun a U => a = #[(.ref r0)] ∧ Z.Warmed39 U.vm ∧ U.heap = h0) (fun _ _ _ _ _ => True) (fun _ U o U' => ∃ v L, o = .returned v ∧ Qm2 Z r0 w0 w1 w2 h0 n0 v U'.heap L ∧ FrameEnd U o U' L ({ frames := 2, cells := 0, slots := 0, locals := 24 } : Room).cells ({ frames := 2, cells := 0, slots := 0, locals := 24 } : Room).slots) := by
  refine MetFree.of_bodySF (plainFor_of_name pn1) hisR ?_
  intro p e s m args below meth c s₁ Bd hml0 hP hK
  obtain ⟨rfl, hZ, hh⟩ := hP
  have hx := Bd.exec
  have hby := Bd.bytes
  have hml : c.maxLocals = 1 := hml0
  have hown : s.vm.findClass kABL = some m.cls := findClass_of_methodNamed Bd.named
  have hnm := (name_of_methodNamed Bd.named Bd.method).1
  have X0 : Stand p l e ({ frames := 2, cells := 0, slots := 0, locals := 24 } : Room) s m #[(.ref r0)] below meth c s₁ [] 0 0 := Stand.of_body Bd
  have e0 : s₁.heap = h0 := by rw [← hh, Bd.state]; rfl
  have N0 := Fr.nil n0
  have pre0 : ∀ t, Steps p.tables e below (s₁.setTop (mkF m 0 #[oR r0] [])) t → Steps p.tables e below (s₁.setTop (entryFrame m #[(.ref r0)] 1)) t := fun t k => castTop (efm2 m r0) k
  obtain ⟨_, T101, L101, X101, hQ101, st101⟩ := own_cC X0 hx hZ hw hown (b := r0) (W := 0) (rmm3 l Z a0 hw [] r0 h0 n0 Z0 ) (by decide) (by decide) (by decide) rfl 12 rfl 13 rfl 17 rfl 16 rfl e0 (g := (mkF m 1 #[oR r0] [(.ref r0)])) rfl (by rw [hml]; rfl) (argsL := []) (rest := []) (lenOf pd0 rfl) rfl (Nat.le_of_eq rfl) (hb hby d2_1) rfl (cN := 0) rfl (by decide) (sN := 0) rfl (by decide)
  obtain ⟨rfl, Nq101, P101_0⟩ := hQ101
  have N101 := Fr.app N0 Nq101
  obtain ⟨T102, h102, X102, e102, W102, st102⟩ := putF X101 hx hZ hown (host := "") (Or.inl (own_w hw 21 rfl)) Via.refl P101_0 F_modCount_r0 E_r0 (Or.inl (own_w hw 22 rfl)) (own_w hw 1 rfl) (ty := .int) (by decide) rfl rfl (g := (mkF m 6 #[oR r0] [(.int 0), (.ref r0)])) rfl rfl (hb hby d2_6)
  have Fw102 := F_modCount_r0.same W102
  have N102 := Fr.snoc X102 N101 g_r0
  have ZZ103 : n0 ≤ h102.size := Nat.le_trans Z0 (Nat.le_of_eq W102.size.symm)
  have KK104 : Keep h0 h102 [r0] := (Keep.refl h0 [r0]).wr W102 (Or.inl (List.mem_of_getElem? (i := 0) rfl))
  obtain ⟨fs, hr, hrun, hended, hW, hsame⟩ := X102.leave (v := none) (fun _ => rfl)
  refine ⟨_, _, pre0 _ ?_, hrun, hended, _, _, rfl, ?_, ⟨_, rfl⟩, hW, hsame.mono (by decide) (by decide)⟩
  · show own_S p e below s₁ m 0 #[oR r0] [] _
    refine XS.aloadN X0.here hx rfl (hb hby d2_0) rfl rfl ?_
    show own_S p e below s₁ m 1 _ [(.ref r0)] _
    refine st101.trans ?_
    show own_S p e below T101 m 4 _ [] _
    refine XS.aloadN X101.here hx rfl (hb hby d2_4) rfl rfl ?_
    refine XS.iconst X101.here hx rfl (hb hby d2_5) ?_
    show own_S p e below T101 m 6 _ [(.int 0), (.ref r0)] _
    refine st102 _ ?_
    show own_S p e below T102 m 9 _ [] _
    exact X102.returnOut hx Bd.returns (hb hby d2_9) hr
  · show Qm2 Z r0 w0 w1 w2 h0 n0 _ T102.heap _
    rw [e102]
    exact ⟨rfl, N102, KK104, (F_elementData_r0.other W102 (Or.inr (sn0 hw))), (F_size_r0.other W102 (Or.inr (sn1 hw))), Fw102⟩
theorem sn2 {Z : State} {a0 : Array Value} (hw : own_HW Z a0) : Jvm.RoadKit.slotOf Z kAL "size" "I" ≠ Jvm.RoadKit.slotOf Z kAL "elementData" kOA := slot_ne (Or.inl (own_w hw 64 rfl)) (Or.inl (own_w hw 25 rfl)) (by decide) (t := .int) (t' := (.array (.object kOB))) (by decide) (by decide)
theorem d1_0 : decode k1 0 = .ok (.aload_n 0, 1) := by decide +kernel
theorem d1_1 : decode k1 1 = .ok (.invokespecial 1, 3) := by decide +kernel
theorem d1_4 : decode k1 4 = .ok (.aload_n 0, 1) := by decide +kernel
theorem d1_5 : decode k1 5 = .ok (.getstatic 39, 3) := by decide +kernel
theorem d1_8 : decode k1 8 = .ok (.putfield 9, 3) := by decide +kernel
theorem d1_11 : decode k1 11 = .ok (.return_, 1) := by decide +kernel
theorem pn2 : plainName kAL = true := by first | (simp [plainName, overriddenIn]; done) | decide +kernel
theorem efm1 (m : MethodId) (r0 : Addr) : entryFrame m #[(.ref r0)] 1 = mkF m 0 #[oR r0] [] := by first | (simp [entryFrame, mkF, argsToLocals, Value.category]; done) | rfl
def Qm1 (Z : State) (r0 : Addr) (w0 : Value) (w1 : Value) (w2 : Value) (de : Addr) (h0 : Heap) (n0 : Nat) (v : Option Value) (h : Heap) (L : List Loc) : Prop := v = none ∧ Fr n0 L ∧ (Keep h0 h [r0]) ∧ (Fld Z h r0 kAL "elementData" kOA (.ref de)) ∧ (Fld Z h r0 kAL "size" "I" w1) ∧ (Fld Z h r0 kABL "modCount" "I" (.int 0))
set_option maxRecDepth 65536 in
set_option maxHeartbeats 40000000 in
theorem rmm1 (l : Launch) (Z : State) (a0 : Array Value) (hw : own_HW Z a0) (ws : List Jvm.Cond) (r0 : Addr) (w0 : Value) (w1 : Value) (w2 : Value) (de : Addr) (h0 : Heap) (n0 : Nat) (Z0 : n0 ≤ h0.size) (E_r0 : Exa Z h0 r0 kAL) (g_r0 : n0 ≤ r0) (F_elementData_r0 : Fld Z h0 r0 kAL "elementData" kOA w0) (F_size_r0 : Fld Z h0 r0 kAL "size" "I" w1) (F_modCount_r0 : Fld Z h0 r0 kABL "modCount" "I" w2) (hOld : Old Z n0 h0) (S_DEFAULTCAPACITY_EMPTY_ELEMENTDATA : Sta Z Z.heap kAL "DEFAULTCAPACITY_EMPTY_ELEMENTDATA" kOA (.ref de)) :
    MetFree l (⟨kAL, "<init>", "()V"⟩ : MethodName) (head1 (Jvm.Cond.code (⟨kAL, "<init>", "()V"⟩ : MethodName) jdk_38_method_2_code 1 none :: ws) ({ frames := 3, cells := 0, slots := 0, locals := 36 } : Room)) (fun a U => a = #[(.ref r0)] ∧ Z.Warmed39 U.vm ∧ U.heap = h0) (fun _ _ _ _ _ => True) (fun _ U o U' => ∃ v L, o = .returned v ∧ Qm1 Z r0 w0 w1 w2 de h0 n0 v U'.heap L ∧ FrameEnd U o U' L ({ frames := 3, cells := 0, slots := 0, locals := 36 } : Room).cells ({ frames := 3, cells := 0, slots := 0, locals := 36 } : Room).slots) := by
  refine MetFree.of_bodySF (plainFor_of_name pn2) hisR ?_
  intro p e s m args below meth c s₁ Bd hml0 hP hK
  obtain ⟨rfl, hZ, hh⟩ := hP
  have hx := Bd.exec
  have hby := Bd.bytes
  have hml : c.maxLocals = 1 := hml0
  have hown : s.vm.findClass kAL = some m.cls := findClass_of_methodNamed Bd.named
  have hnm := (name_of_methodNamed Bd.named Bd.method).1
  have X0 : Stand p l e ({ frames := 3, cells := 0, slots := 0, locals := 36 } : Room) s m #[(.ref r0)] below meth c s₁ [] 0 0 := Stand.of_body Bd
  have e0 : s₁.heap = h0 := by rw [← hh, Bd.state]; rfl
  have N0 := Fr.nil n0
  have pre0 : ∀ t, Steps p.tables e below (s₁.setTop (mkF m 0 #[oR r0] [])) t → Steps p.tables e below (s₁.setTop (entryFrame m #[(.ref r0)] 1)) t := fun t k => castTop (efm1 m r0) k
  obtain ⟨_, T101, L101, X101, hQ101, st101⟩ := own_cC X0 hx hZ hw hown (b := r0) (W := 0) (rmm2 l Z a0 hw [] r0 w0 w1 w2 h0 n0 Z0 E_r0 g_r0 F_elementData_r0 F_size_r0 F_modCount_r0) (by decide) (by decide) (by decide) rfl 6 rfl 7 rfl 11 rfl 10 rfl e0 (g := (mkF m 1 #[oR r0] [(.ref r0)])) rfl (by rw [hml]; rfl) (argsL := []) (rest := []) (lenOf pd0 rfl) rfl (Nat.le_of_eq rfl) (hb hby d1_1) rfl (cN := 0) rfl (by decide) (sN := 0) rfl (by decide)
  obtain ⟨rfl, Nq101, P101_0, P101_1, P101_2, P101_3⟩ := hQ101
  have N101 := Fr.app N0 Nq101
  have ZZ102 : n0 ≤ T101.heap.size := Nat.le_trans Z0 P101_0.1
  have KK103 : Keep h0 T101.heap [r0] := Keep.trans (Keep.refl h0 [r0]) P101_0 (allS (Or.inl (List.mem_of_getElem? (i := 0) rfl)) all0)
  have Ol104 := (hOld.keep P101_0 (allS g_r0 all0))
  have Fz105 := (S_DEFAULTCAPACITY_EMPTY_ELEMENTDATA.ext Ol104.2)
  obtain ⟨T106, X106, e106, st106⟩ := getS2 X101 hx hZ hown (host := "") (Or.inl (own_w hw 23 rfl)) Via.refl rfl Fz105 (g := (mkF m 5 #[oR r0] [(.ref r0)])) rfl (hb hby d1_5)
  obtain ⟨T107, h107, X107, e107, W107, st107⟩ := putF X106 hx hZ hown (host := "") (Or.inl (own_w hw 24 rfl)) Via.refl e106 P101_1 (E_r0.keep P101_0) (Or.inl (own_w hw 25 rfl)) (own_w hw 1 rfl) (ty := (.array (.object kOB))) (by decide) rfl rfl (g := (mkF m 8 #[oR r0] [(.ref de), (.ref r0)])) rfl rfl (hb hby d1_8)
  have Fw107 := P101_1.same W107
  have N107 := Fr.snoc X107 N101 g_r0
  have ZZ108 : n0 ≤ h107.size := Nat.le_trans ZZ102 (Nat.le_of_eq W107.size.symm)
  have KK109 : Keep h0 h107 [r0] := KK103.wr W107 (Or.inl (List.mem_of_getElem? (i := 0) rfl))
  obtain ⟨fs, hr, hrun, hended, hW, hsame⟩ := X107.leave (v := none) (fun _ => rfl)
  refine ⟨_, _, pre0 _ ?_, hrun, hended, _, _, rfl, ?_, ⟨_, rfl⟩, hW, hsame.mono (by decide) (by decide)⟩
  · show own_S p e below s₁ m 0 #[oR r0] [] _
    refine XS.aloadN X0.here hx rfl (hb hby d1_0) rfl rfl ?_
    show own_S p e below s₁ m 1 _ [(.ref r0)] _
    refine st101.trans ?_
    show own_S p e below T101 m 4 _ [] _
    refine XS.aloadN X101.here hx rfl (hb hby d1_4) rfl rfl ?_
    show own_S p e below T101 m 5 _ [(.ref r0)] _
    refine st106 _ ?_
    show own_S p e below T106 m 8 _ [(.ref de), (.ref r0)] _
    refine st107 _ ?_
    show own_S p e below T107 m 11 _ [] _
    exact X107.returnOut hx Bd.returns (hb hby d1_11) hr
  · show Qm1 Z r0 w0 w1 w2 de h0 n0 _ T107.heap _
    rw [e107]
    exact ⟨rfl, N107, KK109, Fw107, (P101_2.other W107 (Or.inr (sn2 hw))), (P101_3.other W107 (Or.inr (Ne.symm (sn0 hw))))⟩
theorem d9_0 : decode jdk_18_method_1_code 0 = .ok (.aload_n 0, 1) := by decide +kernel
theorem d9_1 : decode jdk_18_method_1_code 1 = .ok (.invokespecial 1, 3) := by decide +kernel
theorem d9_4 : decode jdk_18_method_1_code 4 = .ok (.return_, 1) := by decide +kernel
theorem pn3 : plainName "java/lang/Number" = true := by first | (simp [plainName, overriddenIn]; done) | decide +kernel
theorem efm9 (m : MethodId) (r0 : Addr) : entryFrame m #[(.ref r0)] 1 = mkF m 0 #[oR r0] [] := by first | (simp [entryFrame, mkF, argsToLocals, Value.category]; done) | rfl
def Qm9 (Z : State) (r0 : Addr) (h0 : Heap) (n0 : Nat) (v : Option Value) (h : Heap) (L : List Loc) : Prop := v = none ∧ Fr n0 L ∧ (h = h0)
set_option maxRecDepth 65536 in
set_option maxHeartbeats 40000000 in
theorem rmm9 (l : Launch) (Z : State) (a0 : Array Value) (hw : own_HW Z a0) (ws : List Jvm.Cond) (r0 : Addr) (h0 : Heap) (n0 : Nat) (Z0 : n0 ≤ h0.size)  :
    MetFree l (⟨"java/lang/Number", "<init>", "()V"⟩ : MethodName) (head1 (Jvm.Cond.code (⟨"java/lang/Number", "<init>", "()V"⟩ : MethodName) jdk_18_method_1_code 1 none :: ws) ({ frames := 1, cells := 0, slots := 0, locals := 12 } : Room)) (fun a U => a = #[(.ref r0)] ∧ Z.Warmed39 U.vm ∧ U.heap = h0) (fun _ _ _ _ _ => True) (fun _ U o U' => ∃ v L, o = .returned v ∧ Qm9 Z r0 h0 n0 v U'.heap L ∧ FrameEnd U o U' L ({ frames := 1, cells := 0, slots := 0, locals := 12 } : Room).cells ({ frames := 1, cells := 0, slots := 0, locals := 12 } : Room).slots) := by
  refine MetFree.of_bodySF (plainFor_of_name pn3) hisR ?_
  intro p e s m args below meth c s₁ Bd hml0 hP hK
  obtain ⟨rfl, hZ, hh⟩ := hP
  have hx := Bd.exec
  have hby := Bd.bytes
  have hml : c.maxLocals = 1 := hml0
  have hown : s.vm.findClass "java/lang/Number" = some m.cls := findClass_of_methodNamed Bd.named
  have hnm := (name_of_methodNamed Bd.named Bd.method).1
  have X0 : Stand p l e ({ frames := 1, cells := 0, slots := 0, locals := 12 } : Room) s m #[(.ref r0)] below meth c s₁ [] 0 0 := Stand.of_body Bd
  have e0 : s₁.heap = h0 := by rw [← hh, Bd.state]; rfl
  have N0 := Fr.nil n0
  have pre0 : ∀ t, Steps p.tables e below (s₁.setTop (mkF m 0 #[oR r0] [])) t → Steps p.tables e below (s₁.setTop (entryFrame m #[(.ref r0)] 1)) t := fun t k => castTop (efm9 m r0) k
  obtain ⟨T101, X101, e101, st101⟩ := initO X0 hx hZ hown (own_w hw 49 rfl) (own_w hw 19 rfl) (own_w hw 20 rfl) e0 (g := (mkF m 1 #[oR r0] [(.ref r0)])) rfl (by rw [hml]; rfl) rfl (hb hby d9_1) (by decide) (W := 0) (by show 2 * 0 + _ ≤ _; exact Nat.le_of_eq rfl) (by decide)
  obtain ⟨fs, hr, hrun, hended, hW, hsame⟩ := X101.leave (v := none) (fun _ => rfl)
  refine ⟨_, _, pre0 _ ?_, hrun, hended, _, _, rfl, ?_, ⟨_, rfl⟩, hW, hsame.mono (by decide) (by decide)⟩
  · show own_S p e below s₁ m 0 #[oR r0] [] _
    refine XS.aloadN X0.here hx rfl (hb hby d9_0) rfl rfl ?_
    show own_S p e below s₁ m 1 _ [(.ref r0)] _
    refine st101 _ ?_
    show own_S p e below T101 m 4 _ [] _
    exact X101.returnOut hx Bd.returns (hb hby d9_4) hr
  · show Qm9 Z r0 h0 n0 _ T101.heap _
    rw [e101]
    exact ⟨rfl, N0, rfl⟩
theorem d8_0 : decode k8 0 = .ok (.aload_n 0, 1) := by decide +kernel
theorem d8_1 : decode k8 1 = .ok (.invokespecial 113, 3) := by decide +kernel
theorem d8_4 : decode k8 4 = .ok (.aload_n 0, 1) := by decide +kernel
theorem d8_5 : decode k8 5 = .ok (.dload_n 1, 1) := by decide +kernel
theorem d8_6 : decode k8 6 = .ok (.putfield 118, 3) := by decide +kernel
theorem d8_9 : decode k8 9 = .ok (.return_, 1) := by decide +kernel
theorem pn4 : plainName kDB = true := by first | (simp [plainName, overriddenIn]; done) | decide +kernel
theorem efm8 (m : MethodId) (r0 : Addr) (d1 : UInt64) : entryFrame m #[(.ref r0), (.double d1)] 3 = mkF m 0 #[oR r0, oD d1, oV] [] := by first | (simp [entryFrame, mkF, argsToLocals, Value.category]; done) | rfl
def Qm8 (Z : State) (r0 : Addr) (d1 : UInt64) (w0 : Value) (h0 : Heap) (n0 : Nat) (v : Option Value) (h : Heap) (L : List Loc) : Prop := v = none ∧ Fr n0 L ∧ (Keep h0 h [r0]) ∧ (Fld Z h r0 kDB "value" "D" (.double d1))
set_option maxRecDepth 65536 in
set_option maxHeartbeats 40000000 in
theorem rmm8 (l : Launch) (Z : State) (a0 : Array Value) (hw : own_HW Z a0) (ws : List Jvm.Cond) (r0 : Addr) (d1 : UInt64) (w0 : Value) (h0 : Heap) (n0 : Nat) (Z0 : n0 ≤ h0.size) (E_r0 : Exa Z h0 r0 kDB) (g_r0 : n0 ≤ r0) (F_value_r0 : Fld Z h0 r0 kDB "value" "D" w0) :
    MetFree l (⟨kDB, "<init>", "(D)V"⟩ : MethodName) (head1 (Jvm.Cond.code (⟨kDB, "<init>", "(D)V"⟩ : MethodName) jdk_117_method_9_code 3 none :: ws) ({ frames := 2, cells := 0, slots := 0, locals := 24 } : Room)) (fun a U => a = #[(.ref r0), (.double d1)] ∧ Z.Warmed39 U.vm ∧ U.heap = h0) (fun _ _ _ _ _ => True) (fun _ U o U' => ∃ v L, o = .returned v ∧ Qm8 Z r0 d1 w0 h0 n0 v U'.heap L ∧ FrameEnd U o U' L ({ frames := 2, cells := 0, slots := 0, locals := 24 } : Room).cells ({ frames := 2, cells := 0, slots := 0, locals := 24 } : Room).slots) := by
  refine MetFree.of_bodySF (plainFor_of_name pn4) hisR ?_
  intro p e s m args below meth c s₁ Bd hml0 hP hK
  obtain ⟨rfl, hZ, hh⟩ := hP
  have hx := Bd.exec
  have hby := Bd.bytes
  have hml : c.maxLocals = 3 := hml0
  have hown : s.vm.findClass kDB = some m.cls := findClass_of_methodNamed Bd.named
  have hnm := (name_of_methodNamed Bd.named Bd.method).1
  have X0 : Stand p l e ({ frames := 2, cells := 0, slots := 0, locals := 24 } : Room) s m #[(.ref r0), (.double d1)] below meth c s₁ [] 0 0 := Stand.of_body Bd
  have e0 : s₁.heap = h0 := by rw [← hh, Bd.state]; rfl
  have N0 := Fr.nil n0
  have pre0 : ∀ t, Steps p.tables e below (s₁.setTop (mkF m 0 #[oR r0, oD d1, oV] [])) t → Steps p.tables e below (s₁.setTop (entryFrame m #[(.ref r0), (.double d1)] 3)) t := fun t k => castTop (efm8 m r0 d1) k
  obtain ⟨_, T101, L101, X101, hQ101, st101⟩ := own_cC X0 hx hZ hw hown (b := r0) (W := 0) (rmm9 l Z a0 hw [] r0 h0 n0 Z0 ) (by decide) (by decide) (by decide) rfl 43 rfl 44 rfl 48 rfl 47 rfl e0 (g := (mkF m 1 #[oR r0, oD d1, oV] [(.ref r0)])) rfl (by rw [hml]; rfl) (argsL := []) (rest := []) (lenOf pd0 rfl) rfl (Nat.le_of_eq rfl) (hb hby d8_1) rfl (cN := 0) rfl (by decide) (sN := 0) rfl (by decide)
  obtain ⟨rfl, Nq101, P101_0⟩ := hQ101
  have N101 := Fr.app N0 Nq101
  obtain ⟨T102, h102, X102, e102, W102, st102⟩ := putF X101 hx hZ hown (host := "") (Or.inl (own_w hw 50 rfl)) Via.refl P101_0 F_value_r0 E_r0 (Or.inr ⟨(own_w hw 51 rfl), rfl, hnm⟩) (own_w hw 38 rfl) (ty := .double) (by decide) rfl rfl (g := (mkF m 6 #[oR r0, oD d1, oV] [(.double d1), (.ref r0)])) rfl rfl (hb hby d8_6)
  have Fw102 := F_value_r0.same W102
  have N102 := Fr.snoc X102 N101 g_r0
  have ZZ103 : n0 ≤ h102.size := Nat.le_trans Z0 (Nat.le_of_eq W102.size.symm)
  have KK104 : Keep h0 h102 [r0] := (Keep.refl h0 [r0]).wr W102 (Or.inl (List.mem_of_getElem? (i := 0) rfl))
  obtain ⟨fs, hr, hrun, hended, hW, hsame⟩ := X102.leave (v := none) (fun _ => rfl)
  refine ⟨_, _, pre0 _ ?_, hrun, hended, _, _, rfl, ?_, ⟨_, rfl⟩, hW, hsame.mono (by decide) (by decide)⟩
  · show own_S p e below s₁ m 0 #[oR r0, oD d1, oV] [] _
    refine XS.aloadN X0.here hx rfl (hb hby d8_0) rfl rfl ?_
    show own_S p e below s₁ m 1 _ [(.ref r0)] _
    refine st101.trans ?_
    show own_S p e below T101 m 4 _ [] _
    refine XS.aloadN X101.here hx rfl (hb hby d8_4) rfl rfl ?_
    refine XS.dloadN X101.here hx rfl (hb hby d8_5) rfl ?_
    show own_S p e below T101 m 6 _ [(.double d1), (.ref r0)] _
    refine st102 _ ?_
    show own_S p e below T102 m 9 _ [] _
    exact X102.returnOut hx Bd.returns (hb hby d8_9) hr
  · show Qm8 Z r0 d1 w0 h0 n0 _ T102.heap _
    rw [e102]
    exact ⟨rfl, N102, KK104, Fw102⟩
theorem pd1 : parseMethodDescriptor "(D)V" = some ⟨[.double], none⟩ := by decide +kernel
theorem d7_0 : decode k7 0 = .ok (.new 1, 3) := by decide +kernel
theorem d7_3 : decode k7 3 = .ok (.dup, 1) := by decide +kernel
theorem d7_4 : decode k7 4 = .ok (.dload_n 0, 1) := by decide +kernel
theorem d7_5 : decode k7 5 = .ok (.invokespecial 105, 3) := by decide +kernel
theorem d7_8 : decode k7 8 = .ok (.areturn, 1) := by decide +kernel
theorem efm7 (m : MethodId) (d0 : UInt64) : entryFrame m #[(.double d0)] 2 = mkF m 0 #[oD d0, oV] [] := by first | (simp [entryFrame, mkF, argsToLocals, Value.category]; done) | rfl
def Qm7 (Z : State) (d0 : UInt64) (h0 : Heap) (n0 : Nat) (v : Option Value) (h : Heap) (L : List Loc) : Prop := ∃ x : Addr, v = some (.ref x) ∧ Fr n0 L ∧ (Keep h0 h []) ∧ (h0.size ≤ x) ∧ (Exa Z h x kDB) ∧ (Fld Z h x kDB "value" "D" (.double d0))
set_option maxRecDepth 65536 in
set_option maxHeartbeats 40000000 in
theorem rmm7 (l : Launch) (Z : State) (a0 : Array Value) (hw : own_HW Z a0) (ws : List Jvm.Cond) (d0 : UInt64) (h0 : Heap) (n0 : Nat) (Z0 : n0 ≤ h0.size)  :
    MetFree l (⟨kDB, "valueOf", "(D)Ljava/lang/Double;"⟩ : MethodName) (head1 (Jvm.Cond.code (⟨kDB, "valueOf", "(D)Ljava/lang/Double;"⟩ : MethodName) jdk_117_method_4_code 2 (some (.object kDB)) :: ws) ({ frames := 3, cells := 1, slots := 1, locals := 39 } : Room)) (fun a U => a = #[(.double d0)] ∧ Z.Warmed39 U.vm ∧ U.heap = h0) (fun _ _ _ _ _ => True) (fun _ U o U' => ∃ v L, o = .returned v ∧ Qm7 Z d0 h0 n0 v U'.heap L ∧ FrameEnd U o U' L ({ frames := 3, cells := 1, slots := 1, locals := 39 } : Room).cells ({ frames := 3, cells := 1, slots := 1, locals := 39 } : Room).slots) := by
  refine MetFree.of_bodySF (plainFor_of_name pn4) hisR ?_
  intro p e s m args below meth c s₁ Bd hml0 hP hK
  obtain ⟨rfl, hZ, hh⟩ := hP
  have hx := Bd.exec
  have hby := Bd.bytes
  have hml : c.maxLocals = 2 := hml0
  have hown : s.vm.findClass kDB = some m.cls := findClass_of_methodNamed Bd.named
  have hnm := (name_of_methodNamed Bd.named Bd.method).1
  have X0 : Stand p l e ({ frames := 3, cells := 1, slots := 1, locals := 39 } : Room) s m #[(.double d0)] below meth c s₁ [] 0 0 := Stand.of_body Bd
  have e0 : s₁.heap = h0 := by rw [← hh, Bd.state]; rfl
  have N0 := Fr.nil n0
  have pre0 : ∀ t, Steps p.tables e below (s₁.setTop (mkF m 0 #[oD d0, oV] [])) t → Steps p.tables e below (s₁.setTop (entryFrame m #[(.double d0)] 2)) t := fun t k => castTop (efm7 m d0) k
  obtain ⟨T101, h101, X101, e101, E101, A101, D101, -, st101⟩ := newO X0 hx hZ hown (own_w hw 37 rfl) (own_w hw 38 rfl) (own_w hw 35 rfl) e0 (g := (mkF m 0 #[oD d0, oV] [])) rfl (hb hby d7_0) (by decide) (by decide)
  obtain ⟨b101, g101⟩ : ∃ z, z = h0.size := ⟨_, rfl⟩
  rw [← g101] at A101 D101 st101
  have g_b101 : n0 ≤ b101 := Nat.le_trans Z0 (Nat.le_of_eq g101.symm)
  have sz_b101 : h0.size ≤ b101 := Nat.le_trans (Keep.refl h0 []).1 (Nat.le_of_eq g101.symm)
  have ZZ102 : n0 ≤ h101.size := Nat.le_trans Z0 E101.1
  have KK103 : Keep h0 h101 [] := (Keep.refl h0 []).ext E101
  have F_value_b101 : Fld Z h101 b101 kDB "value" "D" (.double 0) := D101 (Or.inr (own_w hw 51 rfl)) (ty := .double) (by decide)
  obtain ⟨_, T104, L104, X104, hQ104, st104⟩ := own_cC X101 hx hZ hw hown (b := b101) (W := 1) (rmm8 l Z a0 hw [] b101 d0 (.double 0) h101 n0 ZZ102 A101 g_b101 F_value_b101) (by decide) (by decide) (by decide) rfl 39 rfl 40 rfl 42 rfl 35 rfl e101 (g := (mkF m 5 #[oD d0, oV] [(.double d0), (.ref b101), (.ref b101)])) rfl (by rw [hml]; rfl) (argsL := [(.double d0)]) (rest := [(.ref b101)]) (lenOf pd1 rfl) rfl (Nat.le_of_eq rfl) (hb hby d7_5) rfl (cN := 1) rfl (by decide) (sN := 1) rfl (by decide)
  obtain ⟨rfl, Nq104, P104_0, P104_1⟩ := hQ104
  have N104 := Fr.app N0 Nq104
  have ZZ105 : n0 ≤ T104.heap.size := Nat.le_trans ZZ102 P104_0.1
  have KK106 : Keep h0 T104.heap [] := Keep.trans KK103 P104_0 (allS (Or.inr sz_b101) all0)
  obtain ⟨fs, hr, hrun, hended, hW, hsame⟩ := X104.leave (v := some (.ref b101)) (fun h => by rw [Bd.returns] at h; cases h)
  refine ⟨_, _, pre0 _ ?_, hrun, hended, _, _, rfl, ?_, ⟨_, rfl⟩, hW, hsame.mono (by decide) (by decide)⟩
  · show own_S p e below s₁ m 0 #[oD d0, oV] [] _
    refine st101 _ ?_
    show own_S p e below T101 m 3 _ [(.ref b101)] _
    refine XS.dup X101.here hx rfl (hb hby d7_3) rfl rfl ?_
    refine XS.dloadN X101.here hx rfl (hb hby d7_4) rfl ?_
    show own_S p e below T101 m 5 _ [(.double d0), (.ref b101), (.ref b101)] _
    refine st104.trans ?_
    show own_S p e below T104 m 8 _ [(.ref b101)] _
    exact retOut X104 hx Bd.returns rfl (Or.inr (Or.inr (Or.inr (Or.inr ⟨rfl, rfl, rfl⟩)))) (hb hby d7_8) hr
  · show Qm7 Z d0 h0 n0 _ T104.heap _
    exact ⟨b101, rfl, N104, KK106, sz_b101, (A101.keep P104_0), P104_1⟩
theorem d14_0 : decode k14 0 = .ok (.iload_n 0, 1) := by decide +kernel
theorem d14_1 : decode k14 1 = .ok (.iload_n 1, 1) := by decide +kernel
theorem d14_2 : decode k14 2 = .ok (.if_icmp .lt 7, 3) := by decide +kernel
theorem d14_5 : decode k14 5 = .ok (.iload_n 0, 1) := by decide +kernel
theorem d14_6 : decode k14 6 = .ok (.goto 4, 3) := by decide +kernel
theorem d14_10 : decode k14 10 = .ok (.ireturn, 1) := by decide +kernel
theorem efm14 (m : MethodId)  : entryFrame m #[(.int 10), (.int 1)] 2 = mkF m 0 #[oI 10, oI 1] [] := by first | (simp [entryFrame, mkF, argsToLocals, Value.category]; done) | rfl
def Qm14 (Z : State)  (h0 : Heap) (n0 : Nat) (v : Option Value) (h : Heap) (L : List Loc) : Prop := v = some (.int 10) ∧ Fr n0 L ∧ (h = h0)
set_option maxRecDepth 65536 in
set_option maxHeartbeats 40000000 in
theorem rmm14 (l : Launch) (Z : State) (a0 : Array Value) (hw : own_HW Z a0) (ws : List Jvm.Cond)  (h0 : Heap) (n0 : Nat) (Z0 : n0 ≤ h0.size)  :
    MetFree l (⟨"java/lang/Math", "max", "(II)I"⟩ : MethodName) (head1 (Jvm.Cond.code (⟨"java/lang/Math", "max", "(II)I"⟩ : MethodName) jdk_29_method_65_code 2 (some .int) :: ws) ({ frames := 0, cells := 0, slots := 0, locals := 0 } : Room)) (fun a U => a = #[(.int 10), (.int 1)] ∧ Z.Warmed39 U.vm ∧ U.heap = h0) (fun _ _ _ _ _ => True) (fun _ U o U' => ∃ v L, o = .returned v ∧ Qm14 Z  h0 n0 v U'.heap L ∧ FrameEnd U o U' L ({ frames := 0, cells := 0, slots := 0, locals := 0 } : Room).cells ({ frames := 0, cells := 0, slots := 0, locals := 0 } : Room).slots) := by
  refine MetFree.of_bodySF (Jvm.Free.JP.mathPlain rfl (by decide +kernel)) hisR ?_
  intro p e s m args below meth c s₁ Bd hml0 hP hK
  obtain ⟨rfl, hZ, hh⟩ := hP
  have hx := Bd.exec
  have hby := Bd.bytes
  have hml : c.maxLocals = 2 := hml0
  have hown : s.vm.findClass "java/lang/Math" = some m.cls := findClass_of_methodNamed Bd.named
  have hnm := (name_of_methodNamed Bd.named Bd.method).1
  have X0 : Stand p l e ({ frames := 0, cells := 0, slots := 0, locals := 0 } : Room) s m #[(.int 10), (.int 1)] below meth c s₁ [] 0 0 := Stand.of_body Bd
  have e0 : s₁.heap = h0 := by rw [← hh, Bd.state]; rfl
  have N0 := Fr.nil n0
  have pre0 : ∀ t, Steps p.tables e below (s₁.setTop (mkF m 0 #[oI 10, oI 1] [])) t → Steps p.tables e below (s₁.setTop (entryFrame m #[(.int 10), (.int 1)] 2)) t := fun t k => castTop (efm14 m ) k
  obtain ⟨fs, hr, hrun, hended, hW, hsame⟩ := X0.leave (v := some (.int 10)) (fun h => by rw [Bd.returns] at h; cases h)
  refine ⟨_, _, pre0 _ ?_, hrun, hended, _, _, rfl, ?_, ⟨_, rfl⟩, hW, hsame.mono (by decide) (by decide)⟩
  · show own_S p e below s₁ m 0 #[oI 10, oI 1] [] _
    refine XS.iloadN X0.here hx rfl (hb hby d14_0) rfl ?_
    refine XS.iloadN X0.here hx rfl (hb hby d14_1) rfl ?_
    refine XS.icmpNo X0.here hx rfl (hb hby d14_2) rfl (flt (by decide : ¬ ((10 : Int32) < (1 : Int32)))).1 ?_
    refine XS.iloadN X0.here hx rfl (hb hby d14_5) rfl ?_
    show own_S p e below s₁ m 6 _ [(.int 10)] _
    refine XS.goto X0.here hx rfl (pc0 := 6) (pc' := 10) rfl (hb hby d14_6) (by decide) (by decide) ?_
    show own_S p e below s₁ m 10 _ [(.int 10)] _
    exact retOut X0 hx Bd.returns rfl (Or.inl ⟨rfl, Or.inl rfl, _, rfl⟩) (hb hby d14_10) hr
  · show Qm14 Z  h0 n0 _ s₁.heap _
    rw [e0]
    exact ⟨rfl, N0, rfl⟩
theorem pd2 : parseMethodDescriptor "(II)I" = some ⟨[.int, .int], some .int⟩ := by decide +kernel
theorem d13_0 : decode k13 0 = .ok (.aload_n 0, 1) := by decide +kernel
theorem d13_1 : decode k13 1 = .ok (.getfield 9, 3) := by decide +kernel
theorem d13_4 : decode k13 4 = .ok (.arraylength, 1) := by decide +kernel
theorem d13_5 : decode k13 5 = .ok (.istore_n 2, 1) := by decide +kernel
theorem d13_6 : decode k13 6 = .ok (.iload_n 2, 1) := by decide +kernel
theorem d13_7 : decode k13 7 = .ok (.ifCond .gt 13, 3) := by decide +kernel
theorem d13_10 : decode k13 10 = .ok (.aload_n 0, 1) := by decide +kernel
theorem d13_11 : decode k13 11 = .ok (.getfield 9, 3) := by decide +kernel
theorem d13_14 : decode k13 14 = .ok (.getstatic 39, 3) := by decide +kernel
theorem d13_17 : decode k13 17 = .ok (.if_acmp .eq 28, 3) := by decide +kernel
theorem d13_45 : decode k13 45 = .ok (.aload_n 0, 1) := by decide +kernel
theorem d13_46 : decode k13 46 = .ok (.bipush 10, 2) := by decide +kernel
theorem d13_48 : decode k13 48 = .ok (.iload_n 1, 1) := by decide +kernel
theorem d13_49 : decode k13 49 = .ok (.invokestatic 79, 3) := by decide +kernel
theorem d13_52 : decode k13 52 = .ok (.anewarray 7, 3) := by decide +kernel
theorem d13_55 : decode k13 55 = .ok (.dup_x1, 1) := by decide +kernel
theorem d13_56 : decode k13 56 = .ok (.putfield 9, 3) := by decide +kernel
theorem d13_59 : decode k13 59 = .ok (.areturn, 1) := by decide +kernel
theorem efm13 (m : MethodId) (r0 : Addr) : entryFrame m #[(.ref r0), (.int 1)] 4 = mkF m 0 #[oR r0, oI 1, oU, oU] [] := by first | (simp [entryFrame, mkF, argsToLocals, Value.category]; done) | rfl
def Qm13 (Z : State) (r0 : Addr) (wM : Value) (de : Addr) (kde : ClassId) (h0 : Heap) (n0 : Nat) (v : Option Value) (h : Heap) (L : List Loc) : Prop := ∃ el : Addr, ∃ kel : ClassId, v = some (.ref el) ∧ Fr n0 L ∧ (Keep h0 h [r0]) ∧ (h0.size ≤ el) ∧ (Fld Z h r0 kAL "elementData" kOA (.ref el)) ∧ (Fld Z h r0 kAL "size" "I" (.int 0)) ∧ (Fld Z h r0 kABL "modCount" "I" wM) ∧ (Arv Z h el kel (.object kOB) (10 : Int32) [.null, .null, .null, .null] .null) ∧ (Exa Z h el kOA) ∧ (Ovr Z kel kOB)
set_option maxRecDepth 65536 in
set_option maxHeartbeats 40000000 in
theorem rmm13 (l : Launch) (Z : State) (a0 : Array Value) (hw : own_HW Z a0) (ws : List Jvm.Cond) (r0 : Addr) (wM : Value) (de : Addr) (kde : ClassId) (h0 : Heap) (n0 : Nat) (Z0 : n0 ≤ h0.size) (E_r0 : Exa Z h0 r0 kAL) (g_r0 : n0 ≤ r0) (F_elementData_r0 : Fld Z h0 r0 kAL "elementData" kOA (.ref de)) (F_size_r0 : Fld Z h0 r0 kAL "size" "I" (.int 0)) (F_modCount_r0 : Fld Z h0 r0 kABL "modCount" "I" wM) (hOld : Old Z n0 h0) (S_DEFAULTCAPACITY_EMPTY_ELEMENTDATA : Sta Z Z.heap kAL "DEFAULTCAPACITY_EMPTY_ELEMENTDATA" kOA (.ref de)) (V_de : Arv Z Z.heap de kde (.object kOB) (0 : Int32) [] .null) (E_de : Exa Z Z.heap de kOA) :
    MetFree l (⟨kAL, "grow", "(I)[Ljava/lang/Object;"⟩ : MethodName) (head1 (Jvm.Cond.code (⟨kAL, "grow", "(I)[Ljava/lang/Object;"⟩ : MethodName) jdk_38_method_6_code 4 (some (.array (.object kOB))) :: ws) ({ frames := 1, cells := 1, slots := 10, locals := 14 } : Room)) (fun a U => a = #[(.ref r0), (.int 1)] ∧ Z.Warmed39 U.vm ∧ U.heap = h0) (fun _ _ _ _ _ => True) (fun _ U o U' => ∃ v L, o = .returned v ∧ Qm13 Z r0 wM de kde h0 n0 v U'.heap L ∧ FrameEnd U o U' L ({ frames := 1, cells := 1, slots := 10, locals := 14 } : Room).cells ({ frames := 1, cells := 1, slots := 10, locals := 14 } : Room).slots) := by
  refine MetFree.of_bodySF (plainFor_of_name pn2) hisR ?_
  intro p e s m args below meth c s₁ Bd hml0 hP hK
  obtain ⟨rfl, hZ, hh⟩ := hP
  have hx := Bd.exec
  have hby := Bd.bytes
  have hml : c.maxLocals = 4 := hml0
  have hown : s.vm.findClass kAL = some m.cls := findClass_of_methodNamed Bd.named
  have hnm := (name_of_methodNamed Bd.named Bd.method).1
  have X0 : Stand p l e ({ frames := 1, cells := 1, slots := 10, locals := 14 } : Room) s m #[(.ref r0), (.int 1)] below meth c s₁ [] 0 0 := Stand.of_body Bd
  have e0 : s₁.heap = h0 := by rw [← hh, Bd.state]; rfl
  have N0 := Fr.nil n0
  have pre0 : ∀ t, Steps p.tables e below (s₁.setTop (mkF m 0 #[oR r0, oI 1, oU, oU] [])) t → Steps p.tables e below (s₁.setTop (entryFrame m #[(.ref r0), (.int 1)] 4)) t := fun t k => castTop (efm13 m r0) k
  obtain ⟨T101, X101, e101, st101⟩ := getF X0 hx hZ hown (host := "") (Or.inl (own_w hw 24 rfl)) Via.refl e0 F_elementData_r0 (g := (mkF m 1 #[oR r0, oI 1, oU, oU] [(.ref r0)])) rfl rfl (hb hby d13_1)
  have Fz102 := (V_de.ext hOld.2)
  obtain ⟨cl103, Ar103, qk103, Sz103, Nz103, Hh103, Gg103⟩ := id Fz102
  obtain ⟨T104, X104, e104, st104⟩ := getF X101 hx hZ hown (host := "") (Or.inl (own_w hw 24 rfl)) Via.refl e101 F_elementData_r0 (g := (mkF m 11 #[oR r0, oI 1, oI 0, oU] [(.ref r0)])) rfl rfl (hb hby d13_11)
  have Fz105 := (S_DEFAULTCAPACITY_EMPTY_ELEMENTDATA.ext hOld.2)
  obtain ⟨T106, X106, e106, st106⟩ := getS2 X104 hx hZ hown (host := "") (Or.inl (own_w hw 23 rfl)) Via.refl e104 Fz105 (g := (mkF m 14 #[oR r0, oI 1, oI 0, oU] [(.ref de)])) rfl (hb hby d13_14)
  obtain ⟨_, T107, L107, X107, hQ107, st107⟩ := own_cS X106 hx hZ hw hown (W := 1) (rmm14 l Z a0 hw []  h0 n0 Z0 ) (by decide) (by decide) (by decide) 80 rfl 81 rfl 82 rfl 83 rfl e106 (g := (mkF m 49 #[oR r0, oI 1, oI 0, oU] [(.int 1), (.int 10), (.ref r0)])) rfl (by rw [hml]; rfl) (argsL := [(.int 10), (.int 1)]) (rest := [(.ref r0)]) (lenOf pd2 rfl) rfl (Nat.le_of_eq rfl) (hb hby d13_49) rfl (cN := 0) rfl (by decide) (sN := 0) rfl (by decide)
  obtain ⟨rfl, Nq107, P107_0⟩ := hQ107
  have N107 := Fr.app N0 Nq107
  obtain ⟨T108, h108, k108, X108, e108, E108, A108, Ea108, O108, st108⟩ := newRE X107 hx hZ hown (own_w hw 84 rfl) (own_w hw 85 rfl) P107_0 (g := (mkF m 52 #[oR r0, oI 1, oI 0, oU] [(.int 10), (.ref r0)])) rfl (hb hby d13_52) rfl (by decide) (cap := 10) (by decide) (by decide) (by decide) (by decide) (ad := kOA) (by decide)
  obtain ⟨b108, g108⟩ : ∃ z, z = h0.size := ⟨_, rfl⟩
  rw [← g108] at A108 Ea108 st108
  have g_b108 : n0 ≤ b108 := Nat.le_trans Z0 (Nat.le_of_eq g108.symm)
  have sz_b108 : h0.size ≤ b108 := Nat.le_trans (Keep.refl h0 [r0]).1 (Nat.le_of_eq g108.symm)
  have ZZ109 : n0 ≤ h108.size := Nat.le_trans Z0 E108.1
  have KK110 : Keep h0 h108 [r0] := (Keep.refl h0 [r0]).ext E108
  have V_b108 : Arv Z h108 b108 k108 (.object kOB) (10 : Int32) [.null, .null, .null, .null] .null := (Arv.new A108 (by decide)).pad (pad_rep [] .null 4)
  have Fc111 := (F_elementData_r0.ext E108)
  obtain ⟨T112, h112, X112, e112, W112, st112⟩ := putF X108 hx hZ hown (host := "") (Or.inl (own_w hw 24 rfl)) Via.refl e108 Fc111 (E_r0.ext E108) (Or.inl (own_w hw 25 rfl)) (own_w hw 1 rfl) (ty := (.array (.object kOB))) (by decide) rfl rfl (g := (mkF m 56 #[oR r0, oI 1, oI 0, oU] [(.ref b108), (.ref r0), (.ref b108)])) rfl rfl (hb hby d13_56)
  have Fw112 := Fc111.same W112
  have N112 := Fr.snoc X112 N107 g_r0
  have ZZ113 : n0 ≤ h112.size := Nat.le_trans ZZ109 (Nat.le_of_eq W112.size.symm)
  have KK114 : Keep h0 h112 [r0] := KK110.wr W112 (Or.inl (List.mem_of_getElem? (i := 0) rfl))
  have Fc115 := ((E_r0.ext E108).wr W112)
  have nq116 : b108 ≠ r0 := (ne_exa (Ea108.wr W112) Fc115 (by decide))
  obtain ⟨fs, hr, hrun, hended, hW, hsame⟩ := X112.leave (v := some (.ref b108)) (fun h => by rw [Bd.returns] at h; cases h)
  refine ⟨_, _, pre0 _ ?_, hrun, hended, _, _, rfl, ?_, ⟨_, rfl⟩, hW, hsame.mono (by decide) (by decide)⟩
  · show own_S p e below s₁ m 0 #[oR r0, oI 1, oU, oU] [] _
    refine XS.aloadN X0.here hx rfl (hb hby d13_0) rfl rfl ?_
    show own_S p e below s₁ m 1 _ [(.ref r0)] _
    refine st101 _ ?_
    show own_S p e below T101 m 4 _ [(.ref de)] _
    refine X101.arraylength hx (by rw [e101]; exact Ar103.1) (State.isArrayOf_alike hZ.alike Ar103.2.1) (g := (mkF m 4 #[oR r0, oI 1, oU, oU] [(.ref de)])) rfl rfl (hb hby d13_4) _ ?_
    rw [len_of Sz103 Nz103]
    show own_S p e below T101 m 5 _ [(.int 0)] _
    refine XS.istoreN X101.here hx rfl (hb hby d13_5) rfl (l' := #[oR r0, oI 1, oI 0, oU]) rfl ?_
    refine XS.iloadN X101.here hx rfl (hb hby d13_6) rfl ?_
    refine XS.ifNo X101.here hx rfl (hb hby d13_7) rfl ((if0 _ _).trans (flt (by decide : ¬ ((0 : Int32) < (0 : Int32)))).2.2.1) ?_
    refine XS.aloadN X101.here hx rfl (hb hby d13_10) rfl rfl ?_
    show own_S p e below T101 m 11 _ [(.ref r0)] _
    refine st104 _ ?_
    show own_S p e below T104 m 14 _ [(.ref de)] _
    refine st106 _ ?_
    show own_S p e below T106 m 17 _ [(.ref de), (.ref de)] _
    refine Jvm.RoadKit.acmp (g := (mkF m 17 #[oR r0, oI 1, oI 0, oU] [(.ref de), (.ref de)])) X106 hx rfl rfl rfl (pc0 := 17) (pc' := 45) (same := true) rfl (hb hby d13_17) rfl (decide_eq_true rfl) (by decide) (by decide) ?_
    show own_S p e below T106 m 45 _ [] _
    refine XS.aloadN X106.here hx rfl (hb hby d13_45) rfl rfl ?_
    refine XS.bipush X106.here hx rfl (hb hby d13_46) ?_
    refine XS.iloadN X106.here hx rfl (hb hby d13_48) rfl ?_
    show own_S p e below T106 m 49 _ [(.int 1), (.int 10), (.ref r0)] _
    refine st107.trans ?_
    show own_S p e below T107 m 52 _ [(.int 10), (.ref r0)] _
    refine st108 _ ?_
    show own_S p e below T108 m 55 _ [(.ref b108), (.ref r0)] _
    refine XS.dupX1 X108.here hx rfl (hb hby d13_55) rfl rfl rfl ?_
    show own_S p e below T108 m 56 _ [(.ref b108), (.ref r0), (.ref b108)] _
    refine st112 _ ?_
    show own_S p e below T112 m 59 _ [(.ref b108)] _
    exact retOut X112 hx Bd.returns rfl (Or.inr (Or.inr (Or.inr (Or.inr ⟨rfl, rfl, rfl⟩)))) (hb hby d13_59) hr
  · show Qm13 Z r0 wM de kde h0 n0 _ T112.heap _
    rw [e112]
    exact ⟨b108, k108, rfl, N112, KK114, sz_b108, Fw112, ((F_size_r0.ext E108).other W112 (Or.inr (sn2 hw))), ((F_modCount_r0.ext E108).other W112 (Or.inr (Ne.symm (sn0 hw)))), (V_b108.other W112 nq116), (Ea108.wr W112), O108⟩
theorem pd3 : parseMethodDescriptor "(I)[Ljava/lang/Object;" = some ⟨[.int], some (.array (.object kOB))⟩ := by decide +kernel
theorem d12_0 : decode k12 0 = .ok (.aload_n 0, 1) := by decide +kernel
theorem d12_1 : decode k12 1 = .ok (.aload_n 0, 1) := by decide +kernel
theorem d12_2 : decode k12 2 = .ok (.getfield 48, 3) := by decide +kernel
theorem d12_5 : decode k12 5 = .ok (.iconst 1, 1) := by decide +kernel
theorem d12_6 : decode k12 6 = .ok (.iadd, 1) := by decide +kernel
theorem d12_7 : decode k12 7 = .ok (.invokevirtual 69, 3) := by decide +kernel
theorem d12_10 : decode k12 10 = .ok (.areturn, 1) := by decide +kernel
theorem efm12 (m : MethodId) (r0 : Addr) : entryFrame m #[(.ref r0)] 1 = mkF m 0 #[oR r0] [] := by first | (simp [entryFrame, mkF, argsToLocals, Value.category]; done) | rfl
def Qm12 (Z : State) (r0 : Addr) (wM : Value) (de : Addr) (kde : ClassId) (h0 : Heap) (n0 : Nat) (v : Option Value) (h : Heap) (L : List Loc) : Prop := ∃ el : Addr, ∃ kel : ClassId, v = some (.ref el) ∧ Fr n0 L ∧ (Keep h0 h [r0]) ∧ (h0.size ≤ el) ∧ (Fld Z h r0 kAL "elementData" kOA (.ref el)) ∧ (Fld Z h r0 kAL "size" "I" (.int 0)) ∧ (Fld Z h r0 kABL "modCount" "I" wM) ∧ (Arv Z h el kel (.object kOB) (10 : Int32) [.null, .null, .null, .null] .null) ∧ (Exa Z h el kOA) ∧ (Ovr Z kel kOB)
set_option maxRecDepth 65536 in
set_option maxHeartbeats 40000000 in
theorem rmm12 (l : Launch) (Z : State) (a0 : Array Value) (hw : own_HW Z a0) (ws : List Jvm.Cond) (r0 : Addr) (wM : Value) (de : Addr) (kde : ClassId) (h0 : Heap) (n0 : Nat) (Z0 : n0 ≤ h0.size) (E_r0 : Exa Z h0 r0 kAL) (g_r0 : n0 ≤ r0) (F_elementData_r0 : Fld Z h0 r0 kAL "elementData" kOA (.ref de)) (F_size_r0 : Fld Z h0 r0 kAL "size" "I" (.int 0)) (F_modCount_r0 : Fld Z h0 r0 kABL "modCount" "I" wM) (hOld : Old Z n0 h0) (S_DEFAULTCAPACITY_EMPTY_ELEMENTDATA : Sta Z Z.heap kAL "DEFAULTCAPACITY_EMPTY_ELEMENTDATA" kOA (.ref de)) (V_de : Arv Z Z.heap de kde (.object kOB) (0 : Int32) [] .null) (E_de : Exa Z Z.heap de kOA) :
    MetFree l (⟨kAL, "grow", "()[Ljava/lang/Object;"⟩ : MethodName) (head1 (Jvm.Cond.code (⟨kAL, "grow", "()[Ljava/lang/Object;"⟩ : MethodName) jdk_38_method_7_code 1 (some (.array (.object kOB))) :: ws) ({ frames := 2, cells := 1, slots := 10, locals := 29 } : Room)) (fun a U => a = #[(.ref r0)] ∧ Z.Warmed39 U.vm ∧ U.heap = h0) (fun _ _ _ _ _ => True) (fun _ U o U' => ∃ v L, o = .returned v ∧ Qm12 Z r0 wM de kde h0 n0 v U'.heap L ∧ FrameEnd U o U' L ({ frames := 2, cells := 1, slots := 10, locals := 29 } : Room).cells ({ frames := 2, cells := 1, slots := 10, locals := 29 } : Room).slots) := by
  refine MetFree.of_bodySF (plainFor_of_name pn2) hisR ?_
  intro p e s m args below meth c s₁ Bd hml0 hP hK
  obtain ⟨rfl, hZ, hh⟩ := hP
  have hx := Bd.exec
  have hby := Bd.bytes
  have hml : c.maxLocals = 1 := hml0
  have hown : s.vm.findClass kAL = some m.cls := findClass_of_methodNamed Bd.named
  have hnm := (name_of_methodNamed Bd.named Bd.method).1
  have X0 : Stand p l e ({ frames := 2, cells := 1, slots := 10, locals := 29 } : Room) s m #[(.ref r0)] below meth c s₁ [] 0 0 := Stand.of_body Bd
  have e0 : s₁.heap = h0 := by rw [← hh, Bd.state]; rfl
  have N0 := Fr.nil n0
  have pre0 : ∀ t, Steps p.tables e below (s₁.setTop (mkF m 0 #[oR r0] [])) t → Steps p.tables e below (s₁.setTop (entryFrame m #[(.ref r0)] 1)) t := fun t k => castTop (efm12 m r0) k
  obtain ⟨T101, X101, e101, st101⟩ := getF X0 hx hZ hown (host := "") (Or.inl (own_w hw 63 rfl)) Via.refl e0 F_size_r0 (g := (mkF m 2 #[oR r0] [(.ref r0), (.ref r0)])) rfl rfl (hb hby d12_2)
  obtain ⟨_, T102, L102, X102, hQ102, st102⟩ := own_cP X101 hx hZ hw hown (b := r0) (W := 0) (rmm13 l Z a0 hw [] r0 wM de kde h0 n0 Z0 E_r0 g_r0 F_elementData_r0 F_size_r0 F_modCount_r0 hOld S_DEFAULTCAPACITY_EMPTY_ELEMENTDATA V_de E_de) (by decide) (by decide) (by decide) 75 rfl 76 rfl 77 rfl 79 rfl 2 rfl (own_w hw 78 rfl) e101 E_r0 (g := (mkF m 7 #[oR r0] [(.int 1), (.ref r0)])) rfl (by rw [hml]; rfl) (argsL := [(.int 1)]) (rest := []) (lenOf pd3 rfl) rfl (Nat.le_of_eq rfl) (hb hby d12_7) rfl (cN := 1) rfl (by decide) (sN := 10) rfl (by decide)
  obtain ⟨el_102, kel_102, rfl, Nq102, P102_0, P102_1, P102_2, P102_3, P102_4, P102_5, P102_6, P102_7⟩ := hQ102
  have N102 := Fr.app N0 Nq102
  have g_el_102 : n0 ≤ el_102 := Nat.le_trans Z0 P102_1
  have sz_el_102 : h0.size ≤ el_102 := Nat.le_trans (Keep.refl h0 [r0]).1 P102_1
  have ZZ103 : n0 ≤ T102.heap.size := Nat.le_trans Z0 P102_0.1
  have KK104 : Keep h0 T102.heap [r0] := Keep.trans (Keep.refl h0 [r0]) P102_0 (allS (Or.inl (List.mem_of_getElem? (i := 0) rfl)) all0)
  obtain ⟨fs, hr, hrun, hended, hW, hsame⟩ := X102.leave (v := some (.ref el_102)) (fun h => by rw [Bd.returns] at h; cases h)
  refine ⟨_, _, pre0 _ ?_, hrun, hended, _, _, rfl, ?_, ⟨_, rfl⟩, hW, hsame.mono (by decide) (by decide)⟩
  · show own_S p e below s₁ m 0 #[oR r0] [] _
    refine XS.aloadN X0.here hx rfl (hb hby d12_0) rfl rfl ?_
    refine XS.aloadN X0.here hx rfl (hb hby d12_1) rfl rfl ?_
    show own_S p e below s₁ m 2 _ [(.ref r0), (.ref r0)] _
    refine st101 _ ?_
    show own_S p e below T101 m 5 _ [(.int 0), (.ref r0)] _
    refine XS.iconst X101.here hx rfl (hb hby d12_5) ?_
    show own_S p e below T101 m 6 _ [(.int 1), (.int 0), (.ref r0)] _
    refine XS.iadd X101.here hx rfl (hb hby d12_6) rfl ?_
    show own_S p e below T101 m 7 _ [(.int ((0 : Int32) + (1 : Int32))), (.ref r0)] _
    refine reI (by decide : ((0 : Int32) + (1 : Int32)) = (1 : Int32)) ?_
    show own_S p e below T101 m 7 _ [(.int 1), (.ref r0)] _
    refine st102.trans ?_
    show own_S p e below T102 m 10 #[oR r0] [(.ref el_102)] _
    exact retOut X102 hx Bd.returns rfl (Or.inr (Or.inr (Or.inr (Or.inr ⟨rfl, rfl, rfl⟩)))) (hb hby d12_10) hr
  · show Qm12 Z r0 wM de kde h0 n0 _ T102.heap _
    exact ⟨el_102, kel_102, rfl, N102, KK104, sz_el_102, P102_2, P102_3, P102_4, P102_5, P102_6, P102_7⟩
theorem pd4 : parseMethodDescriptor "()[Ljava/lang/Object;" = some ⟨[], some (.array (.object kOB))⟩ := by decide +kernel
theorem own_insKeep {Z : State} {h h' : Heap} {a : Addr} {C : String} {ws : List Addr} (F : Ins Z h a C true) (K : Keep h h' ws) : Ins Z h' a C true := by
  obtain ⟨c, t, h1, h2, h3⟩ := F
  obtain ⟨c', g1, g2, g3, -⟩ := K.2.2 _ _ h1
  exact ⟨c', t, g1, h2, by rw [g2, g3]; exact h3⟩
theorem d11_0 : decode k11 0 = .ok (.iload_n 3, 1) := by decide +kernel
theorem d11_1 : decode k11 1 = .ok (.aload_n 2, 1) := by decide +kernel
theorem d11_2 : decode k11 2 = .ok (.arraylength, 1) := by decide +kernel
theorem d11_3 : decode k11 3 = .ok (.if_icmp .ne 8, 3) := by decide +kernel
theorem d11_6 : decode k11 6 = .ok (.aload_n 0, 1) := by decide +kernel
theorem d11_7 : decode k11 7 = .ok (.invokevirtual 129, 3) := by decide +kernel
theorem d11_10 : decode k11 10 = .ok (.astore_n 2, 1) := by decide +kernel
theorem d11_11 : decode k11 11 = .ok (.aload_n 2, 1) := by decide +kernel
theorem d11_12 : decode k11 12 = .ok (.iload_n 3, 1) := by decide +kernel
theorem d11_13 : decode k11 13 = .ok (.aload_n 1, 1) := by decide +kernel
theorem d11_14 : decode k11 14 = .ok (.aastore, 1) := by decide +kernel
theorem d11_15 : decode k11 15 = .ok (.aload_n 0, 1) := by decide +kernel
theorem d11_16 : decode k11 16 = .ok (.iload_n 3, 1) := by decide +kernel
theorem d11_17 : decode k11 17 = .ok (.iconst 1, 1) := by decide +kernel
theorem d11_18 : decode k11 18 = .ok (.iadd, 1) := by decide +kernel
theorem d11_19 : decode k11 19 = .ok (.putfield 48, 3) := by decide +kernel
theorem d11_22 : decode k11 22 = .ok (.return_, 1) := by decide +kernel
theorem ef_a3g (m : MethodId) (r0 : Addr) (r1 : Addr) (de : Addr) : entryFrame m #[(.ref r0), (.ref r1), (.ref de), (.int 0)] 4 = mkF m 0 #[oR r0, oR r1, oR de, oI 0] [] := by first | (simp [entryFrame, mkF, argsToLocals, Value.category]; done) | rfl
def Q_a3g (Z : State) (r0 : Addr) (r1 : Addr) (de : Addr) (wM : Value) (kde : ClassId) (h0 : Heap) (n0 : Nat) (v : Option Value) (h : Heap) (L : List Loc) : Prop := ∃ el : Addr, ∃ kel : ClassId, v = none ∧ Fr n0 L ∧ (Keep h0 h [r0]) ∧ (h0.size ≤ el) ∧ (Fld Z h r0 kAL "elementData" kOA (.ref el)) ∧ (Fld Z h r0 kAL "size" "I" (.int 1)) ∧ (Fld Z h r0 kABL "modCount" "I" wM) ∧ (Arv Z h el kel (.object kOB) (10 : Int32) [(.ref r1), .null, .null, .null] .null) ∧ (Exa Z h el kOA) ∧ (Ovr Z kel kOB)
set_option maxRecDepth 65536 in
set_option maxHeartbeats 40000000 in
theorem rm_a3g (l : Launch) (Z : State) (a0 : Array Value) (hw : own_HW Z a0) (ws : List Jvm.Cond) (r0 : Addr) (r1 : Addr) (de : Addr) (wM : Value) (kde : ClassId) (h0 : Heap) (n0 : Nat) (Z0 : n0 ≤ h0.size) (E_r0 : Exa Z h0 r0 kAL) (g_r0 : n0 ≤ r0) (F_elementData_r0 : Fld Z h0 r0 kAL "elementData" kOA (.ref de)) (F_size_r0 : Fld Z h0 r0 kAL "size" "I" (.int 0)) (F_modCount_r0 : Fld Z h0 r0 kABL "modCount" "I" wM) (hOld : Old Z n0 h0) (S_DEFAULTCAPACITY_EMPTY_ELEMENTDATA : Sta Z Z.heap kAL "DEFAULTCAPACITY_EMPTY_ELEMENTDATA" kOA (.ref de)) (V_de : Arv Z Z.heap de kde (.object kOB) (0 : Int32) [] .null) (E_de : Exa Z Z.heap de kOA) (I_r1 : Ins Z h0 r1 kOB true) :
    MetFree l (⟨kAL, "add", "(Ljava/lang/Object;[Ljava/lang/Object;I)V"⟩ : MethodName) (head1 (Jvm.Cond.code (⟨kAL, "add", "(Ljava/lang/Object;[Ljava/lang/Object;I)V"⟩ : MethodName) jdk_38_method_24_code 4 none :: ws) ({ frames := 3, cells := 1, slots := 10, locals := 41 } : Room)) (fun a U => a = #[(.ref r0), (.ref r1), (.ref de), (.int 0)] ∧ Z.Warmed39 U.vm ∧ U.heap = h0) (fun _ _ _ _ _ => True) (fun _ U o U' => ∃ v L, o = .returned v ∧ Q_a3g Z r0 r1 de wM kde h0 n0 v U'.heap L ∧ FrameEnd U o U' L ({ frames := 3, cells := 1, slots := 10, locals := 41 } : Room).cells ({ frames := 3, cells := 1, slots := 10, locals := 41 } : Room).slots) := by
  refine MetFree.of_bodySF (plainFor_of_name pn2) hisR ?_
  intro p e s m args below meth c s₁ Bd hml0 hP hK
  obtain ⟨rfl, hZ, hh⟩ := hP
  have hx := Bd.exec
  have hby := Bd.bytes
  have hml : c.maxLocals = 4 := hml0
  have hown : s.vm.findClass kAL = some m.cls := findClass_of_methodNamed Bd.named
  have hnm := (name_of_methodNamed Bd.named Bd.method).1
  have X0 : Stand p l e ({ frames := 3, cells := 1, slots := 10, locals := 41 } : Room) s m #[(.ref r0), (.ref r1), (.ref de), (.int 0)] below meth c s₁ [] 0 0 := Stand.of_body Bd
  have e0 : s₁.heap = h0 := by rw [← hh, Bd.state]; rfl
  have N0 := Fr.nil n0
  have pre0 : ∀ t, Steps p.tables e below (s₁.setTop (mkF m 0 #[oR r0, oR r1, oR de, oI 0] [])) t → Steps p.tables e below (s₁.setTop (entryFrame m #[(.ref r0), (.ref r1), (.ref de), (.int 0)] 4)) t := fun t k => castTop (ef_a3g m r0 r1 de) k
  have Fz101 := (V_de.ext hOld.2)
  obtain ⟨cl102, Ar102, qk102, Sz102, Nz102, Hh102, Gg102⟩ := id Fz101
  obtain ⟨_, T103, L103, X103, hQ103, st103⟩ := own_cP X0 hx hZ hw hown (b := r0) (W := 0) (rmm12 l Z a0 hw [] r0 wM de kde h0 n0 Z0 E_r0 g_r0 F_elementData_r0 F_size_r0 F_modCount_r0 hOld S_DEFAULTCAPACITY_EMPTY_ELEMENTDATA V_de E_de) (by decide) (by decide) (by decide) 70 rfl 71 rfl 72 rfl 74 rfl 2 rfl (own_w hw 73 rfl) e0 E_r0 (g := (mkF m 7 #[oR r0, oR r1, oR de, oI 0] [(.ref r0)])) rfl (by rw [hml]; rfl) (argsL := []) (rest := []) (lenOf pd4 rfl) rfl (Nat.le_of_eq rfl) (hb hby d11_7) rfl (cN := 1) rfl (by decide) (sN := 10) rfl (by decide)
  obtain ⟨el_103, kel_103, rfl, Nq103, P103_0, P103_1, P103_2, P103_3, P103_4, P103_5, P103_6, P103_7⟩ := hQ103
  have N103 := Fr.app N0 Nq103
  have g_el_103 : n0 ≤ el_103 := Nat.le_trans Z0 P103_1
  have sz_el_103 : h0.size ≤ el_103 := Nat.le_trans (Keep.refl h0 [r0]).1 P103_1
  have ZZ104 : n0 ≤ T103.heap.size := Nat.le_trans Z0 P103_0.1
  have KK105 : Keep h0 T103.heap [r0] := Keep.trans (Keep.refl h0 [r0]) P103_0 (allS (Or.inl (List.mem_of_getElem? (i := 0) rfl)) all0)
  obtain ⟨cl106, Ar106, qk106, Sz106, Nz106, Hh106, Gg106⟩ := id P103_5
  have hin107 : ¬ ((0 : Int32) < 0 ∨ cl106.slots.size ≤ ((0 : Int32)).toNatClampNeg) := inb_of Sz106 ⟨by decide, by decide⟩
  have Fc108 := (own_insKeep I_r1 P103_0)
  obtain ⟨T109, h109, X109, e109, W109, st109⟩ := stR X103 hx hZ rfl Ar106 (j := (0 : Int32)) hin107 rfl (Sto.ofV Ar106 qk106 P103_7 Fc108) (g := (mkF m 14 #[oR r0, oR r1, oR el_103, oI 0] [(.ref r1), (.int 0), (.ref el_103)])) rfl rfl (hb hby d11_14)
  have Va109 := Arv.set Ar106 qk106 Sz106 Nz106 Hh106 Gg106 rfl W109 0 rfl (Nat.le_of_ble_eq_true rfl)
  have N109 := Fr.snoc X109 N103 g_el_103
  have ZZ110 : n0 ≤ h109.size := Nat.le_trans ZZ104 (Nat.le_of_eq W109.size.symm)
  have KK111 : Keep h0 h109 [r0] := KK105.wr W109 (Or.inr sz_el_103)
  have Fc112 := ((E_r0.keep P103_0).wr W109)
  have nq113 : r0 ≠ el_103 := (ne_exa Fc112 (P103_6.wr W109) (by decide))
  have Fc114 := (P103_3.other W109 (Or.inl nq113))
  obtain ⟨T115, h115, X115, e115, W115, st115⟩ := putF X109 hx hZ hown (host := "") (Or.inl (own_w hw 63 rfl)) Via.refl e109 Fc114 Fc112 (Or.inl (own_w hw 64 rfl)) (own_w hw 1 rfl) (ty := .int) (by decide) rfl rfl (g := (mkF m 19 #[oR r0, oR r1, oR el_103, oI 0] [(.int 1), (.ref r0)])) rfl rfl (hb hby d11_19)
  have Fw115 := Fc114.same W115
  have N115 := Fr.snoc X115 N109 g_r0
  have ZZ116 : n0 ≤ h115.size := Nat.le_trans ZZ110 (Nat.le_of_eq W115.size.symm)
  have KK117 : Keep h0 h115 [r0] := KK111.wr W115 (Or.inl (List.mem_of_getElem? (i := 0) rfl))
  obtain ⟨fs, hr, hrun, hended, hW, hsame⟩ := X115.leave (v := none) (fun _ => rfl)
  refine ⟨_, _, pre0 _ ?_, hrun, hended, _, _, rfl, ?_, ⟨_, rfl⟩, hW, hsame.mono (by decide) (by decide)⟩
  · show own_S p e below s₁ m 0 #[oR r0, oR r1, oR de, oI 0] [] _
    refine XS.iloadN X0.here hx rfl (hb hby d11_0) rfl ?_
    refine XS.aloadN X0.here hx rfl (hb hby d11_1) rfl rfl ?_
    show own_S p e below s₁ m 2 _ [(.ref de), (.int 0)] _
    refine X0.arraylength hx (by rw [e0]; exact Ar102.1) (State.isArrayOf_alike hZ.alike Ar102.2.1) (g := (mkF m 2 #[oR r0, oR r1, oR de, oI 0] [(.ref de), (.int 0)])) rfl rfl (hb hby d11_2) _ ?_
    rw [len_of Sz102 Nz102]
    show own_S p e below s₁ m 3 _ [(.int 0), (.int 0)] _
    refine XS.icmpNo X0.here hx rfl (hb hby d11_3) rfl (teq (by decide : (0 : Int32) = (0 : Int32))).2 ?_
    refine XS.aloadN X0.here hx rfl (hb hby d11_6) rfl rfl ?_
    show own_S p e below s₁ m 7 _ [(.ref r0)] _
    refine st103.trans ?_
    show own_S p e below T103 m 10 _ [(.ref el_103)] _
    refine XS.astoreN X103.here hx rfl (hb hby d11_10) rfl rfl (l' := #[oR r0, oR r1, oR el_103, oI 0]) rfl ?_
    refine XS.aloadN X103.here hx rfl (hb hby d11_11) rfl rfl ?_
    refine XS.iloadN X103.here hx rfl (hb hby d11_12) rfl ?_
    refine XS.aloadN X103.here hx rfl (hb hby d11_13) rfl rfl ?_
    show own_S p e below T103 m 14 _ [(.ref r1), (.int 0), (.ref el_103)] _
    refine st109 _ ?_
    show own_S p e below T109 m 15 _ [] _
    refine XS.aloadN X109.here hx rfl (hb hby d11_15) rfl rfl ?_
    refine XS.iloadN X109.here hx rfl (hb hby d11_16) rfl ?_
    refine XS.iconst X109.here hx rfl (hb hby d11_17) ?_
    show own_S p e below T109 m 18 #[oR r0, oR r1, oR el_103, oI 0] [(.int 1), (.int 0), (.ref r0)] _
    refine XS.iadd X109.here hx rfl (hb hby d11_18) rfl ?_
    show own_S p e below T109 m 19 _ [(.int ((0 : Int32) + (1 : Int32))), (.ref r0)] _
    refine reI (by decide : ((0 : Int32) + (1 : Int32)) = (1 : Int32)) ?_
    show own_S p e below T109 m 19 _ [(.int 1), (.ref r0)] _
    refine st115 _ ?_
    show own_S p e below T115 m 22 _ [] _
    exact X115.returnOut hx Bd.returns (hb hby d11_22) hr
  · show Q_a3g Z r0 r1 de wM kde h0 n0 _ T115.heap _
    rw [e115]
    exact ⟨el_103, kel_103, rfl, N115, KK117, sz_el_103, ((P103_2.other W109 (Or.inl nq113)).other W115 (Or.inr (Ne.symm (sn2 hw)))), Fw115, ((P103_4.other W109 (Or.inl nq113)).other W115 (Or.inr (Ne.symm (sn1 hw)))), (Va109.other W115 (Ne.symm nq113)), ((P103_6.wr W109).wr W115), P103_7⟩
theorem pd5 : parseMethodDescriptor "(Ljava/lang/Object;[Ljava/lang/Object;I)V" = some ⟨[(.object kOB), (.array (.object kOB)), .int], none⟩ := by decide +kernel
theorem d10_0 : decode k10 0 = .ok (.aload_n 0, 1) := by decide +kernel
theorem d10_1 : decode k10 1 = .ok (.dup, 1) := by decide +kernel
theorem d10_2 : decode k10 2 = .ok (.getfield 63, 3) := by decide +kernel
theorem d10_5 : decode k10 5 = .ok (.iconst 1, 1) := by decide +kernel
theorem d10_6 : decode k10 6 = .ok (.iadd, 1) := by decide +kernel
theorem d10_7 : decode k10 7 = .ok (.putfield 63, 3) := by decide +kernel
theorem d10_10 : decode k10 10 = .ok (.aload_n 0, 1) := by decide +kernel
theorem d10_11 : decode k10 11 = .ok (.aload_n 1, 1) := by decide +kernel
theorem d10_12 : decode k10 12 = .ok (.aload_n 0, 1) := by decide +kernel
theorem d10_13 : decode k10 13 = .ok (.getfield 9, 3) := by decide +kernel
theorem d10_16 : decode k10 16 = .ok (.aload_n 0, 1) := by decide +kernel
theorem d10_17 : decode k10 17 = .ok (.getfield 48, 3) := by decide +kernel
theorem d10_20 : decode k10 20 = .ok (.invokevirtual 131, 3) := by decide +kernel
theorem d10_23 : decode k10 23 = .ok (.iconst 1, 1) := by decide +kernel
theorem d10_24 : decode k10 24 = .ok (.ireturn, 1) := by decide +kernel
theorem ef_a1g (m : MethodId) (r0 : Addr) (r1 : Addr) : entryFrame m #[(.ref r0), (.ref r1)] 2 = mkF m 0 #[oR r0, oR r1] [] := by first | (simp [entryFrame, mkF, argsToLocals, Value.category]; done) | rfl
def Q_a1g (Z : State) (r0 : Addr) (r1 : Addr) (mc : Int32) (de : Addr) (kde : ClassId) (h0 : Heap) (n0 : Nat) (v : Option Value) (h : Heap) (L : List Loc) : Prop := ∃ el : Addr, ∃ kel : ClassId, v = some (.int 1) ∧ Fr n0 L ∧ (Keep h0 h [r0]) ∧ (h0.size ≤ el) ∧ (Fld Z h r0 kAL "elementData" kOA (.ref el)) ∧ (Fld Z h r0 kAL "size" "I" (.int 1)) ∧ (Fld Z h r0 kABL "modCount" "I" (.int (mc + (1 : Int32)))) ∧ (Arv Z h el kel (.object kOB) (10 : Int32) [(.ref r1), .null, .null, .null] .null) ∧ (Exa Z h el kOA) ∧ (Ovr Z kel kOB)
set_option maxRecDepth 65536 in
set_option maxHeartbeats 40000000 in
theorem rm_a1g (l : Launch) (Z : State) (a0 : Array Value) (hw : own_HW Z a0) (ws : List Jvm.Cond) (r0 : Addr) (r1 : Addr) (mc : Int32) (de : Addr) (kde : ClassId) (h0 : Heap) (n0 : Nat) (Z0 : n0 ≤ h0.size) (E_r0 : Exa Z h0 r0 kAL) (g_r0 : n0 ≤ r0) (F_elementData_r0 : Fld Z h0 r0 kAL "elementData" kOA (.ref de)) (F_size_r0 : Fld Z h0 r0 kAL "size" "I" (.int 0)) (F_modCount_r0 : Fld Z h0 r0 kABL "modCount" "I" (.int mc)) (hOld : Old Z n0 h0) (S_DEFAULTCAPACITY_EMPTY_ELEMENTDATA : Sta Z Z.heap kAL "DEFAULTCAPACITY_EMPTY_ELEMENTDATA" kOA (.ref de)) (V_de : Arv Z Z.heap de kde (.object kOB) (0 : Int32) [] .null) (E_de : Exa Z Z.heap de kOA) (I_r1 : Ins Z h0 r1 kOB true) :
    MetFree l (⟨kAL, "add", "(Ljava/lang/Object;)Z"⟩ : MethodName) (head1 (Jvm.Cond.code (⟨kAL, "add", "(Ljava/lang/Object;)Z"⟩ : MethodName) jdk_38_method_25_code 2 (some .boolean) :: ws) ({ frames := 4, cells := 1, slots := 10, locals := 56 } : Room)) (fun a U => a = #[(.ref r0), (.ref r1)] ∧ Z.Warmed39 U.vm ∧ U.heap = h0) (fun _ _ _ _ _ => True) (fun _ U o U' => ∃ v L, o = .returned v ∧ Q_a1g Z r0 r1 mc de kde h0 n0 v U'.heap L ∧ FrameEnd U o U' L ({ frames := 4, cells := 1, slots := 10, locals := 56 } : Room).cells ({ frames := 4, cells := 1, slots := 10, locals := 56 } : Room).slots) := by
  refine MetFree.of_bodySF (plainFor_of_name pn2) hisR ?_
  intro p e s m args below meth c s₁ Bd hml0 hP hK
  obtain ⟨rfl, hZ, hh⟩ := hP
  have hx := Bd.exec
  have hby := Bd.bytes
  have hml : c.maxLocals = 2 := hml0
  have hown : s.vm.findClass kAL = some m.cls := findClass_of_methodNamed Bd.named
  have hnm := (name_of_methodNamed Bd.named Bd.method).1
  have X0 : Stand p l e ({ frames := 4, cells := 1, slots := 10, locals := 56 } : Room) s m #[(.ref r0), (.ref r1)] below meth c s₁ [] 0 0 := Stand.of_body Bd
  have e0 : s₁.heap = h0 := by rw [← hh, Bd.state]; rfl
  have N0 := Fr.nil n0
  have pre0 : ∀ t, Steps p.tables e below (s₁.setTop (mkF m 0 #[oR r0, oR r1] [])) t → Steps p.tables e below (s₁.setTop (entryFrame m #[(.ref r0), (.ref r1)] 2)) t := fun t k => castTop (ef_a1g m r0 r1) k
  obtain ⟨T101, X101, e101, st101⟩ := getF X0 hx hZ hown (host := "") (Or.inl (own_w hw 61 rfl)) (Via.of (own_w hw 62 rfl)) e0 F_modCount_r0 (g := (mkF m 2 #[oR r0, oR r1] [(.ref r0), (.ref r0)])) rfl rfl (hb hby d10_2)
  obtain ⟨T102, h102, X102, e102, W102, st102⟩ := putF X101 hx hZ hown (host := "") (Or.inl (own_w hw 61 rfl)) (Via.of (own_w hw 62 rfl)) e101 F_modCount_r0 E_r0 (Or.inl (own_w hw 22 rfl)) (own_w hw 1 rfl) (ty := .int) (by decide) rfl rfl (g := (mkF m 7 #[oR r0, oR r1] [(.int (mc + (1 : Int32))), (.ref r0)])) rfl rfl (hb hby d10_7)
  have Fw102 := F_modCount_r0.same W102
  have N102 := Fr.snoc X102 N0 g_r0
  have ZZ103 : n0 ≤ h102.size := Nat.le_trans Z0 (Nat.le_of_eq W102.size.symm)
  have KK104 : Keep h0 h102 [r0] := (Keep.refl h0 [r0]).wr W102 (Or.inl (List.mem_of_getElem? (i := 0) rfl))
  have Fc105 := (F_elementData_r0.other W102 (Or.inr (sn0 hw)))
  obtain ⟨T106, X106, e106, st106⟩ := getF X102 hx hZ hown (host := "") (Or.inl (own_w hw 24 rfl)) Via.refl e102 Fc105 (g := (mkF m 13 #[oR r0, oR r1] [(.ref r0), (.ref r1), (.ref r0)])) rfl rfl (hb hby d10_13)
  have Fc107 := (F_size_r0.other W102 (Or.inr (sn1 hw)))
  obtain ⟨T108, X108, e108, st108⟩ := getF X106 hx hZ hown (host := "") (Or.inl (own_w hw 63 rfl)) Via.refl e106 Fc107 (g := (mkF m 17 #[oR r0, oR r1] [(.ref r0), (.ref de), (.ref r1), (.ref r0)])) rfl rfl (hb hby d10_17)
  obtain ⟨_, T109, L109, X109, hQ109, st109⟩ := own_cP X108 hx hZ hw hown (b := r0) (W := 0) (rm_a3g l Z a0 hw [] r0 r1 de (.int (mc + (1 : Int32))) kde h102 n0 ZZ103 (E_r0.wr W102) g_r0 Fc105 Fc107 Fw102 (hOld.wr W102 g_r0) S_DEFAULTCAPACITY_EMPTY_ELEMENTDATA V_de E_de (I_r1.wr W102)) (by decide) (by decide) (by decide) 65 rfl 66 rfl 67 rfl 69 rfl 2 rfl (own_w hw 68 rfl) e108 (E_r0.wr W102) (g := (mkF m 20 #[oR r0, oR r1] [(.int 0), (.ref de), (.ref r1), (.ref r0)])) rfl (by rw [hml]; rfl) (argsL := [(.ref r1), (.ref de), (.int 0)]) (rest := []) (lenOf pd5 rfl) rfl (Nat.le_of_eq rfl) (hb hby d10_20) rfl (cN := 1) rfl (by decide) (sN := 10) rfl (by decide)
  obtain ⟨el_109, kel_109, rfl, Nq109, P109_0, P109_1, P109_2, P109_3, P109_4, P109_5, P109_6, P109_7⟩ := hQ109
  have N109 := Fr.app N102 Nq109
  have g_el_109 : n0 ≤ el_109 := Nat.le_trans ZZ103 P109_1
  have sz_el_109 : h0.size ≤ el_109 := Nat.le_trans KK104.1 P109_1
  have ZZ110 : n0 ≤ T109.heap.size := Nat.le_trans ZZ103 P109_0.1
  have KK111 : Keep h0 T109.heap [r0] := Keep.trans KK104 P109_0 (allS (Or.inl (List.mem_of_getElem? (i := 0) rfl)) all0)
  obtain ⟨fs, hr, hrun, hended, hW, hsame⟩ := X109.leave (v := some (.int 1)) (fun h => by rw [Bd.returns] at h; cases h)
  refine ⟨_, _, pre0 _ ?_, hrun, hended, _, _, rfl, ?_, ⟨_, rfl⟩, hW, hsame.mono (by decide) (by decide)⟩
  · show own_S p e below s₁ m 0 #[oR r0, oR r1] [] _
    refine XS.aloadN X0.here hx rfl (hb hby d10_0) rfl rfl ?_
    refine XS.dup X0.here hx rfl (hb hby d10_1) rfl rfl ?_
    show own_S p e below s₁ m 2 _ [(.ref r0), (.ref r0)] _
    refine st101 _ ?_
    show own_S p e below T101 m 5 _ [(.int mc), (.ref r0)] _
    refine XS.iconst X101.here hx rfl (hb hby d10_5) ?_
    show own_S p e below T101 m 6 _ [(.int 1), (.int mc), (.ref r0)] _
    refine XS.iadd X101.here hx rfl (hb hby d10_6) rfl ?_
    show own_S p e below T101 m 7 _ [(.int (mc + (1 : Int32))), (.ref r0)] _
    refine st102 _ ?_
    show own_S p e below T102 m 10 _ [] _
    refine XS.aloadN X102.here hx rfl (hb hby d10_10) rfl rfl ?_
    refine XS.aloadN X102.here hx rfl (hb hby d10_11) rfl rfl ?_
    refine XS.aloadN X102.here hx rfl (hb hby d10_12) rfl rfl ?_
    show own_S p e below T102 m 13 _ [(.ref r0), (.ref r1), (.ref r0)] _
    refine st106 _ ?_
    show own_S p e below T106 m 16 _ [(.ref de), (.ref r1), (.ref r0)] _
    refine XS.aloadN X106.here hx rfl (hb hby d10_16) rfl rfl ?_
    show own_S p e below T106 m 17 _ [(.ref r0), (.ref de), (.ref r1), (.ref r0)] _
    refine st108 _ ?_
    show own_S p e below T108 m 20 _ [(.int 0), (.ref de), (.ref r1), (.ref r0)] _
    refine st109.trans ?_
    show own_S p e below T109 m 23 _ [] _
    refine XS.iconst X109.here hx rfl (hb hby d10_23) ?_
    show own_S p e below T109 m 24 #[oR r0, oR r1] [(.int 1)] _
    exact retN X109 hx (t := .boolean) Bd.returns (by simp) (hb hby d10_24) hr
  · show Q_a1g Z r0 r1 mc de kde h0 n0 _ T109.heap _
    exact ⟨el_109, kel_109, rfl, N109, KK111, sz_el_109, P109_2, P109_3, P109_4, P109_5, P109_6, P109_7⟩
theorem ef_a3n (m : MethodId) (r0 : Addr) (r1 : Addr) (el : Addr) (n : Int32) : entryFrame m #[(.ref r0), (.ref r1), (.ref el), (.int n)] 4 = mkF m 0 #[oR r0, oR r1, oR el, oI n] [] := by first | (simp [entryFrame, mkF, argsToLocals, Value.category]; done) | rfl
def Q_a3n (Z : State) (r0 : Addr) (r1 : Addr) (el : Addr) (n : Int32) (wM : Value) (kel : ClassId) (cap : Int32) (ci : Nat) (vs : List Value) (h0 : Heap) (n0 : Nat) (v : Option Value) (h : Heap) (L : List Loc) : Prop := v = none ∧ Fr n0 L ∧ (Keep h0 h [r0, el]) ∧ (Fld Z h r0 kAL "elementData" kOA (.ref el)) ∧ (Fld Z h r0 kAL "size" "I" (.int (n + (1 : Int32)))) ∧ (Fld Z h r0 kABL "modCount" "I" wM) ∧ (Arv Z h el kel (.object kOB) cap ((vs).set ci (.ref r1)) .null)
set_option maxRecDepth 65536 in
set_option maxHeartbeats 40000000 in
theorem rm_a3n (l : Launch) (Z : State) (a0 : Array Value) (hw : own_HW Z a0) (ws : List Jvm.Cond) (r0 : Addr) (r1 : Addr) (el : Addr) (n : Int32) (wM : Value) (kel : ClassId) (cap : Int32) (ci : Nat) (vs : List Value) (h0 : Heap) (n0 : Nat) (Z0 : n0 ≤ h0.size) (E_r0 : Exa Z h0 r0 kAL) (g_r0 : n0 ≤ r0) (g_el : n0 ≤ el) (F_elementData_r0 : Fld Z h0 r0 kAL "elementData" kOA (.ref el)) (F_size_r0 : Fld Z h0 r0 kAL "size" "I" (.int n)) (F_modCount_r0 : Fld Z h0 r0 kABL "modCount" "I" wM) (V_el : Arv Z h0 el kel (.object kOB) cap vs .null) (E_el : Exa Z h0 el kOA) (O_el : Ovr Z kel kOB) (I_r1 : Ins Z h0 r1 kOB true) (hne : ¬ (n = cap)) (hin : ¬ n < (0 : Int32) ∧ n < cap) (hci : n.toNatClampNeg = ci) (hl : ci < vs.length) :
    MetFree l (⟨kAL, "add", "(Ljava/lang/Object;[Ljava/lang/Object;I)V"⟩ : MethodName) (head1 (Jvm.Cond.code (⟨kAL, "add", "(Ljava/lang/Object;[Ljava/lang/Object;I)V"⟩ : MethodName) jdk_38_method_24_code 4 none :: ws) ({ frames := 0, cells := 0, slots := 0, locals := 0 } : Room)) (fun a U => a = #[(.ref r0), (.ref r1), (.ref el), (.int n)] ∧ Z.Warmed39 U.vm ∧ U.heap = h0) (fun _ _ _ _ _ => True) (fun _ U o U' => ∃ v L, o = .returned v ∧ Q_a3n Z r0 r1 el n wM kel cap ci vs h0 n0 v U'.heap L ∧ FrameEnd U o U' L ({ frames := 0, cells := 0, slots := 0, locals := 0 } : Room).cells ({ frames := 0, cells := 0, slots := 0, locals := 0 } : Room).slots) := by
  refine MetFree.of_bodySF (plainFor_of_name pn2) hisR ?_
  intro p e s m args below meth c s₁ Bd hml0 hP hK
  obtain ⟨rfl, hZ, hh⟩ := hP
  have hx := Bd.exec
  have hby := Bd.bytes
  have hml : c.maxLocals = 4 := hml0
  have hown : s.vm.findClass kAL = some m.cls := findClass_of_methodNamed Bd.named
  have hnm := (name_of_methodNamed Bd.named Bd.method).1
  have X0 : Stand p l e ({ frames := 0, cells := 0, slots := 0, locals := 0 } : Room) s m #[(.ref r0), (.ref r1), (.ref el), (.int n)] below meth c s₁ [] 0 0 := Stand.of_body Bd
  have e0 : s₁.heap = h0 := by rw [← hh, Bd.state]; rfl
  have N0 := Fr.nil n0
  have pre0 : ∀ t, Steps p.tables e below (s₁.setTop (mkF m 0 #[oR r0, oR r1, oR el, oI n] [])) t → Steps p.tables e below (s₁.setTop (entryFrame m #[(.ref r0), (.ref r1), (.ref el), (.int n)] 4)) t := fun t k => castTop (ef_a3n m r0 r1 el n) k
  obtain ⟨cl101, Ar101, qk101, Sz101, Nz101, Hh101, Gg101⟩ := id V_el
  have hin102 : ¬ (n < 0 ∨ cl101.slots.size ≤ (n).toNatClampNeg) := inb_of Sz101 hin
  obtain ⟨T103, h103, X103, e103, W103, st103⟩ := stR X0 hx hZ e0 Ar101 (j := n) hin102 rfl (Sto.ofV Ar101 qk101 O_el I_r1) (g := (mkF m 14 #[oR r0, oR r1, oR el, oI n] [(.ref r1), (.int n), (.ref el)])) rfl rfl (hb hby d11_14)
  have Va103 := Arv.set Ar101 qk101 Sz101 Nz101 Hh101 Gg101 rfl W103 ci hci hl
  have N103 := Fr.snoc X103 N0 g_el
  have ZZ104 : n0 ≤ h103.size := Nat.le_trans Z0 (Nat.le_of_eq W103.size.symm)
  have KK105 : Keep h0 h103 [r0, el] := (Keep.refl h0 [r0, el]).wr W103 (Or.inl (List.mem_of_getElem? (i := 1) rfl))
  have nq106 : r0 ≠ el := (ne_exa (E_r0.wr W103) (E_el.wr W103) (by decide))
  have Fc107 := (F_size_r0.other W103 (Or.inl nq106))
  obtain ⟨T108, h108, X108, e108, W108, st108⟩ := putF X103 hx hZ hown (host := "") (Or.inl (own_w hw 63 rfl)) Via.refl e103 Fc107 (E_r0.wr W103) (Or.inl (own_w hw 64 rfl)) (own_w hw 1 rfl) (ty := .int) (by decide) rfl rfl (g := (mkF m 19 #[oR r0, oR r1, oR el, oI n] [(.int (n + (1 : Int32))), (.ref r0)])) rfl rfl (hb hby d11_19)
  have Fw108 := Fc107.same W108
  have N108 := Fr.snoc X108 N103 g_r0
  have ZZ109 : n0 ≤ h108.size := Nat.le_trans ZZ104 (Nat.le_of_eq W108.size.symm)
  have KK110 : Keep h0 h108 [r0, el] := KK105.wr W108 (Or.inl (List.mem_of_getElem? (i := 0) rfl))
  obtain ⟨fs, hr, hrun, hended, hW, hsame⟩ := X108.leave (v := none) (fun _ => rfl)
  refine ⟨_, _, pre0 _ ?_, hrun, hended, _, _, rfl, ?_, ⟨_, rfl⟩, hW, hsame.mono (by decide) (by decide)⟩
  · show own_S p e below s₁ m 0 #[oR r0, oR r1, oR el, oI n] [] _
    refine XS.iloadN X0.here hx rfl (hb hby d11_0) rfl ?_
    refine XS.aloadN X0.here hx rfl (hb hby d11_1) rfl rfl ?_
    show own_S p e below s₁ m 2 _ [(.ref el), (.int n)] _
    refine X0.arraylength hx (by rw [e0]; exact Ar101.1) (State.isArrayOf_alike hZ.alike Ar101.2.1) (g := (mkF m 2 #[oR r0, oR r1, oR el, oI n] [(.ref el), (.int n)])) rfl rfl (hb hby d11_2) _ ?_
    rw [len_of Sz101 Nz101]
    show own_S p e below s₁ m 3 _ [(.int cap), (.int n)] _
    refine XS.icmpYes X0.here hx rfl (pc0 := 3) (pc' := 11) rfl (hb hby d11_3) rfl (feq (hne : ¬ (n = cap))).2 (by decide) (by decide) ?_
    refine XS.aloadN X0.here hx rfl (hb hby d11_11) rfl rfl ?_
    refine XS.iloadN X0.here hx rfl (hb hby d11_12) rfl ?_
    refine XS.aloadN X0.here hx rfl (hb hby d11_13) rfl rfl ?_
    show own_S p e below s₁ m 14 #[oR r0, oR r1, oR el, oI n] [(.ref r1), (.int n), (.ref el)] _
    refine st103 _ ?_
    show own_S p e below T103 m 15 _ [] _
    refine XS.aloadN X103.here hx rfl (hb hby d11_15) rfl rfl ?_
    refine XS.iloadN X103.here hx rfl (hb hby d11_16) rfl ?_
    refine XS.iconst X103.here hx rfl (hb hby d11_17) ?_
    show own_S p e below T103 m 18 _ [(.int 1), (.int n), (.ref r0)] _
    refine XS.iadd X103.here hx rfl (hb hby d11_18) rfl ?_
    show own_S p e below T103 m 19 _ [(.int (n + (1 : Int32))), (.ref r0)] _
    refine st108 _ ?_
    show own_S p e below T108 m 22 _ [] _
    exact X108.returnOut hx Bd.returns (hb hby d11_22) hr
  · show Q_a3n Z r0 r1 el n wM kel cap ci vs h0 n0 _ T108.heap _
    rw [e108]
    exact ⟨rfl, N108, KK110, ((F_elementData_r0.other W103 (Or.inl nq106)).other W108 (Or.inr (Ne.symm (sn2 hw)))), Fw108, ((F_modCount_r0.other W103 (Or.inl nq106)).other W108 (Or.inr (Ne.symm (sn1 hw)))), (Va103.other W108 (Ne.symm nq106))⟩
theorem ef_a1n (m : MethodId) (r0 : Addr) (r1 : Addr) : entryFrame m #[(.ref r0), (.ref r1)] 2 = mkF m 0 #[oR r0, oR r1] [] := by first | (simp [entryFrame, mkF, argsToLocals, Value.category]; done) | rfl
def Q_a1n (Z : State) (r0 : Addr) (r1 : Addr) (mc : Int32) (el : Addr) (kel : ClassId) (n : Int32) (cap : Int32) (ci : Nat) (vs : List Value) (h0 : Heap) (n0 : Nat) (v : Option Value) (h : Heap) (L : List Loc) : Prop := v = some (.int 1) ∧ Fr n0 L ∧ (Keep h0 h [r0, el]) ∧ (Fld Z h r0 kAL "elementData" kOA (.ref el)) ∧ (Fld Z h r0 kAL "size" "I" (.int (n + (1 : Int32)))) ∧ (Fld Z h r0 kABL "modCount" "I" (.int (mc + (1 : Int32)))) ∧ (Arv Z h el kel (.object kOB) cap ((vs).set ci (.ref r1)) .null)
set_option maxRecDepth 65536 in
set_option maxHeartbeats 40000000 in
theorem rm_a1n (l : Launch) (Z : State) (a0 : Array Value) (hw : own_HW Z a0) (ws : List Jvm.Cond) (r0 : Addr) (r1 : Addr) (mc : Int32) (el : Addr) (kel : ClassId) (n : Int32) (cap : Int32) (ci : Nat) (vs : List Value) (h0 : Heap) (n0 : Nat) (Z0 : n0 ≤ h0.size) (E_r0 : Exa Z h0 r0 kAL) (g_r0 : n0 ≤ r0) (g_el : n0 ≤ el) (F_elementData_r0 : Fld Z h0 r0 kAL "elementData" kOA (.ref el)) (F_size_r0 : Fld Z h0 r0 kAL "size" "I" (.int n)) (F_modCount_r0 : Fld Z h0 r0 kABL "modCount" "I" (.int mc)) (V_el : Arv Z h0 el kel (.object kOB) cap vs .null) (E_el : Exa Z h0 el kOA) (O_el : Ovr Z kel kOB) (I_r1 : Ins Z h0 r1 kOB true) (hne : ¬ (n = cap)) (hin : ¬ n < (0 : Int32) ∧ n < cap) (hci : n.toNatClampNeg = ci) (hl : ci < vs.length) :
    MetFree l (⟨kAL, "add", "(Ljava/lang/Object;)Z"⟩ : MethodName) (head1 (Jvm.Cond.code (⟨kAL, "add", "(Ljava/lang/Object;)Z"⟩ : MethodName) jdk_38_method_25_code 2 (some .boolean) :: ws) ({ frames := 1, cells := 0, slots := 0, locals := 15 } : Room)) (fun a U => a = #[(.ref r0), (.ref r1)] ∧ Z.Warmed39 U.vm ∧ U.heap = h0) (fun _ _ _ _ _ => True) (fun _ U o U' => ∃ v L, o = .returned v ∧ Q_a1n Z r0 r1 mc el kel n cap ci vs h0 n0 v U'.heap L ∧ FrameEnd U o U' L ({ frames := 1, cells := 0, slots := 0, locals := 15 } : Room).cells ({ frames := 1, cells := 0, slots := 0, locals := 15 } : Room).slots) := by
  refine MetFree.of_bodySF (plainFor_of_name pn2) hisR ?_
  intro p e s m args below meth c s₁ Bd hml0 hP hK
  obtain ⟨rfl, hZ, hh⟩ := hP
  have hx := Bd.exec
  have hby := Bd.bytes
  have hml : c.maxLocals = 2 := hml0
  have hown : s.vm.findClass kAL = some m.cls := findClass_of_methodNamed Bd.named
  have hnm := (name_of_methodNamed Bd.named Bd.method).1
  have X0 : Stand p l e ({ frames := 1, cells := 0, slots := 0, locals := 15 } : Room) s m #[(.ref r0), (.ref r1)] below meth c s₁ [] 0 0 := Stand.of_body Bd
  have e0 : s₁.heap = h0 := by rw [← hh, Bd.state]; rfl
  have N0 := Fr.nil n0
  have pre0 : ∀ t, Steps p.tables e below (s₁.setTop (mkF m 0 #[oR r0, oR r1] [])) t → Steps p.tables e below (s₁.setTop (entryFrame m #[(.ref r0), (.ref r1)] 2)) t := fun t k => castTop (ef_a1n m r0 r1) k
  obtain ⟨T101, X101, e101, st101⟩ := getF X0 hx hZ hown (host := "") (Or.inl (own_w hw 61 rfl)) (Via.of (own_w hw 62 rfl)) e0 F_modCount_r0 (g := (mkF m 2 #[oR r0, oR r1] [(.ref r0), (.ref r0)])) rfl rfl (hb hby d10_2)
  obtain ⟨T102, h102, X102, e102, W102, st102⟩ := putF X101 hx hZ hown (host := "") (Or.inl (own_w hw 61 rfl)) (Via.of (own_w hw 62 rfl)) e101 F_modCount_r0 E_r0 (Or.inl (own_w hw 22 rfl)) (own_w hw 1 rfl) (ty := .int) (by decide) rfl rfl (g := (mkF m 7 #[oR r0, oR r1] [(.int (mc + (1 : Int32))), (.ref r0)])) rfl rfl (hb hby d10_7)
  have Fw102 := F_modCount_r0.same W102
  have N102 := Fr.snoc X102 N0 g_r0
  have ZZ103 : n0 ≤ h102.size := Nat.le_trans Z0 (Nat.le_of_eq W102.size.symm)
  have KK104 : Keep h0 h102 [r0, el] := (Keep.refl h0 [r0, el]).wr W102 (Or.inl (List.mem_of_getElem? (i := 0) rfl))
  have Fc105 := (F_elementData_r0.other W102 (Or.inr (sn0 hw)))
  obtain ⟨T106, X106, e106, st106⟩ := getF X102 hx hZ hown (host := "") (Or.inl (own_w hw 24 rfl)) Via.refl e102 Fc105 (g := (mkF m 13 #[oR r0, oR r1] [(.ref r0), (.ref r1), (.ref r0)])) rfl rfl (hb hby d10_13)
  have Fc107 := (F_size_r0.other W102 (Or.inr (sn1 hw)))
  obtain ⟨T108, X108, e108, st108⟩ := getF X106 hx hZ hown (host := "") (Or.inl (own_w hw 63 rfl)) Via.refl e106 Fc107 (g := (mkF m 17 #[oR r0, oR r1] [(.ref r0), (.ref el), (.ref r1), (.ref r0)])) rfl rfl (hb hby d10_17)
  have nq109 : el ≠ r0 := (ne_exa (E_el.wr W102) (E_r0.wr W102) (by decide))
  obtain ⟨_, T110, L110, X110, hQ110, st110⟩ := own_cP X108 hx hZ hw hown (b := r0) (W := 0) (rm_a3n l Z a0 hw [] r0 r1 el n (.int (mc + (1 : Int32))) kel cap ci vs h102 n0 ZZ103 (E_r0.wr W102) g_r0 g_el Fc105 Fc107 Fw102 (V_el.other W102 nq109) (E_el.wr W102) O_el (I_r1.wr W102) hne hin hci hl) (by decide) (by decide) (by decide) 65 rfl 66 rfl 67 rfl 69 rfl 2 rfl (own_w hw 68 rfl) e108 (E_r0.wr W102) (g := (mkF m 20 #[oR r0, oR r1] [(.int n), (.ref el), (.ref r1), (.ref r0)])) rfl (by rw [hml]; rfl) (argsL := [(.ref r1), (.ref el), (.int n)]) (rest := []) (lenOf pd5 rfl) rfl (Nat.le_of_eq rfl) (hb hby d10_20) rfl (cN := 0) rfl (by decide) (sN := 0) rfl (by decide)
  obtain ⟨rfl, Nq110, P110_0, P110_1, P110_2, P110_3, P110_4⟩ := hQ110
  have N110 := Fr.app N102 Nq110
  have ZZ111 : n0 ≤ T110.heap.size := Nat.le_trans ZZ103 P110_0.1
  have KK112 : Keep h0 T110.heap [r0, el] := Keep.trans KK104 P110_0 (allS (Or.inl (List.mem_of_getElem? (i := 0) rfl)) (allS (Or.inl (List.mem_of_getElem? (i := 1) rfl)) all0))
  obtain ⟨fs, hr, hrun, hended, hW, hsame⟩ := X110.leave (v := some (.int 1)) (fun h => by rw [Bd.returns] at h; cases h)
  refine ⟨_, _, pre0 _ ?_, hrun, hended, _, _, rfl, ?_, ⟨_, rfl⟩, hW, hsame.mono (by decide) (by decide)⟩
  · show own_S p e below s₁ m 0 #[oR r0, oR r1] [] _
    refine XS.aloadN X0.here hx rfl (hb hby d10_0) rfl rfl ?_
    refine XS.dup X0.here hx rfl (hb hby d10_1) rfl rfl ?_
    show own_S p e below s₁ m 2 _ [(.ref r0), (.ref r0)] _
    refine st101 _ ?_
    show own_S p e below T101 m 5 _ [(.int mc), (.ref r0)] _
    refine XS.iconst X101.here hx rfl (hb hby d10_5) ?_
    show own_S p e below T101 m 6 _ [(.int 1), (.int mc), (.ref r0)] _
    refine XS.iadd X101.here hx rfl (hb hby d10_6) rfl ?_
    show own_S p e below T101 m 7 _ [(.int (mc + (1 : Int32))), (.ref r0)] _
    refine st102 _ ?_
    show own_S p e below T102 m 10 _ [] _
    refine XS.aloadN X102.here hx rfl (hb hby d10_10) rfl rfl ?_
    refine XS.aloadN X102.here hx rfl (hb hby d10_11) rfl rfl ?_
    refine XS.aloadN X102.here hx rfl (hb hby d10_12) rfl rfl ?_
    show own_S p e below T102 m 13 _ [(.ref r0), (.ref r1), (.ref r0)] _
    refine st106 _ ?_
    show own_S p e below T106 m 16 _ [(.ref el), (.ref r1), (.ref r0)] _
    refine XS.aloadN X106.here hx rfl (hb hby d10_16) rfl rfl ?_
    show own_S p e below T106 m 17 _ [(.ref r0), (.ref el), (.ref r1), (.ref r0)] _
    refine st108 _ ?_
    show own_S p e below T108 m 20 _ [(.int n), (.ref el), (.ref r1), (.ref r0)] _
    refine st110.trans ?_
    show own_S p e below T110 m 23 _ [] _
    refine XS.iconst X110.here hx rfl (hb hby d10_23) ?_
    show own_S p e below T110 m 24 #[oR r0, oR r1] [(.int 1)] _
    exact retN X110 hx (t := .boolean) Bd.returns (by simp) (hb hby d10_24) hr
  · show Q_a1n Z r0 r1 mc el kel n cap ci vs h0 n0 _ T110.heap _
    exact ⟨rfl, N110, KK112, P110_1, P110_2, P110_3, P110_4⟩
theorem d18_0 : decode k18 0 = .ok (.aload_n 0, 1) := by decide +kernel
theorem d18_1 : decode k18 1 = .ok (.getfield 48, 3) := by decide +kernel
theorem d18_4 : decode k18 4 = .ok (.ifCond .ne 7, 3) := by decide +kernel
theorem d18_11 : decode k18 11 = .ok (.iconst 0, 1) := by decide +kernel
theorem d18_12 : decode k18 12 = .ok (.ireturn, 1) := by decide +kernel
theorem efm18 (m : MethodId) (r0 : Addr) : entryFrame m #[(.ref r0)] 1 = mkF m 0 #[oR r0] [] := by first | (simp [entryFrame, mkF, argsToLocals, Value.category]; done) | rfl
def Qm18 (Z : State) (r0 : Addr) (n : Int32) (h0 : Heap) (n0 : Nat) (v : Option Value) (h : Heap) (L : List Loc) : Prop := v = some (.int 0) ∧ Fr n0 L ∧ (h = h0)
set_option maxRecDepth 65536 in
set_option maxHeartbeats 40000000 in
theorem rmm18 (l : Launch) (Z : State) (a0 : Array Value) (hw : own_HW Z a0) (ws : List Jvm.Cond) (r0 : Addr) (n : Int32) (h0 : Heap) (n0 : Nat) (Z0 : n0 ≤ h0.size) (F_size_r0 : Fld Z h0 r0 kAL "size" "I" (.int n)) (hnz : ¬ (n = (0 : Int32))) :
    MetFree l (⟨kAL, "isEmpty", "()Z"⟩ : MethodName) (head1 (Jvm.Cond.code (⟨kAL, "isEmpty", "()Z"⟩ : MethodName) jdk_38_method_9_code 1 (some .boolean) :: ws) ({ frames := 0, cells := 0, slots := 0, locals := 0 } : Room)) (fun a U => a = #[(.ref r0)] ∧ Z.Warmed39 U.vm ∧ U.heap = h0) (fun _ _ _ _ _ => True) (fun _ U o U' => ∃ v L, o = .returned v ∧ Qm18 Z r0 n h0 n0 v U'.heap L ∧ FrameEnd U o U' L ({ frames := 0, cells := 0, slots := 0, locals := 0 } : Room).cells ({ frames := 0, cells := 0, slots := 0, locals := 0 } : Room).slots) := by
  refine MetFree.of_bodySF (plainFor_of_name pn2) hisR ?_
  intro p e s m args below meth c s₁ Bd hml0 hP hK
  obtain ⟨rfl, hZ, hh⟩ := hP
  have hx := Bd.exec
  have hby := Bd.bytes
  have hml : c.maxLocals = 1 := hml0
  have hown : s.vm.findClass kAL = some m.cls := findClass_of_methodNamed Bd.named
  have hnm := (name_of_methodNamed Bd.named Bd.method).1
  have X0 : Stand p l e ({ frames := 0, cells := 0, slots := 0, locals := 0 } : Room) s m #[(.ref r0)] below meth c s₁ [] 0 0 := Stand.of_body Bd
  have e0 : s₁.heap = h0 := by rw [← hh, Bd.state]; rfl
  have N0 := Fr.nil n0
  have pre0 : ∀ t, Steps p.tables e below (s₁.setTop (mkF m 0 #[oR r0] [])) t → Steps p.tables e below (s₁.setTop (entryFrame m #[(.ref r0)] 1)) t := fun t k => castTop (efm18 m r0) k
  obtain ⟨T101, X101, e101, st101⟩ := getF X0 hx hZ hown (host := "") (Or.inl (own_w hw 63 rfl)) Via.refl e0 F_size_r0 (g := (mkF m 1 #[oR r0] [(.ref r0)])) rfl rfl (hb hby d18_1)
  obtain ⟨fs, hr, hrun, hended, hW, hsame⟩ := X101.leave (v := some (.int 0)) (fun h => by rw [Bd.returns] at h; cases h)
  refine ⟨_, _, pre0 _ ?_, hrun, hended, _, _, rfl, ?_, ⟨_, rfl⟩, hW, hsame.mono (by decide) (by decide)⟩
  · show own_S p e below s₁ m 0 #[oR r0] [] _
    refine XS.aloadN X0.here hx rfl (hb hby d18_0) rfl rfl ?_
    show own_S p e below s₁ m 1 _ [(.ref r0)] _
    refine st101 _ ?_
    show own_S p e below T101 m 4 _ [(.int n)] _
    refine XS.ifYes X101.here hx rfl (pc0 := 4) (pc' := 11) rfl (hb hby d18_4) rfl ((if0 _ _).trans (feq (hnz : ¬ (n = (0 : Int32)))).2) (by decide) (by decide) ?_
    refine XS.iconst X101.here hx rfl (hb hby d18_11) ?_
    show own_S p e below T101 m 12 _ [(.int 0)] _
    exact retN X101 hx (t := .boolean) Bd.returns (by simp) (hb hby d18_12) hr
  · show Qm18 Z r0 n h0 n0 _ T101.heap _
    rw [e101]
    exact ⟨rfl, N0, rfl⟩
theorem d23_0 : decode jdk_38_method_8_code 0 = .ok (.aload_n 0, 1) := by decide +kernel
theorem d23_1 : decode jdk_38_method_8_code 1 = .ok (.getfield 48, 3) := by decide +kernel
theorem d23_4 : decode jdk_38_method_8_code 4 = .ok (.ireturn, 1) := by decide +kernel
theorem efm23 (m : MethodId) (r0 : Addr) : entryFrame m #[(.ref r0)] 1 = mkF m 0 #[oR r0] [] := by first | (simp [entryFrame, mkF, argsToLocals, Value.category]; done) | rfl
def Qm23 (Z : State) (r0 : Addr) (n : Int32) (h0 : Heap) (n0 : Nat) (v : Option Value) (h : Heap) (L : List Loc) : Prop := v = some (.int n) ∧ Fr n0 L ∧ (h = h0)
set_option maxRecDepth 65536 in
set_option maxHeartbeats 40000000 in
theorem rmm23 (l : Launch) (Z : State) (a0 : Array Value) (hw : own_HW Z a0) (ws : List Jvm.Cond) (r0 : Addr) (n : Int32) (h0 : Heap) (n0 : Nat) (Z0 : n0 ≤ h0.size) (F_size_r0 : Fld Z h0 r0 kAL "size" "I" (.int n)) :
    MetFree l (⟨kAL, "size", "()I"⟩ : MethodName) (head1 (Jvm.Cond.code (⟨kAL, "size", "()I"⟩ : MethodName) jdk_38_method_8_code 1 (some .int) :: ws) ({ frames := 0, cells := 0, slots := 0, locals := 0 } : Room)) (fun a U => a = #[(.ref r0)] ∧ Z.Warmed39 U.vm ∧ U.heap = h0) (fun _ _ _ _ _ => True) (fun _ U o U' => ∃ v L, o = .returned v ∧ Qm23 Z r0 n h0 n0 v U'.heap L ∧ FrameEnd U o U' L ({ frames := 0, cells := 0, slots := 0, locals := 0 } : Room).cells ({ frames := 0, cells := 0, slots := 0, locals := 0 } : Room).slots) := by
  refine MetFree.of_bodySF (plainFor_of_name pn2) hisR ?_
  intro p e s m args below meth c s₁ Bd hml0 hP hK
  obtain ⟨rfl, hZ, hh⟩ := hP
  have hx := Bd.exec
  have hby := Bd.bytes
  have hml : c.maxLocals = 1 := hml0
  have hown : s.vm.findClass kAL = some m.cls := findClass_of_methodNamed Bd.named
  have hnm := (name_of_methodNamed Bd.named Bd.method).1
  have X0 : Stand p l e ({ frames := 0, cells := 0, slots := 0, locals := 0 } : Room) s m #[(.ref r0)] below meth c s₁ [] 0 0 := Stand.of_body Bd
  have e0 : s₁.heap = h0 := by rw [← hh, Bd.state]; rfl
  have N0 := Fr.nil n0
  have pre0 : ∀ t, Steps p.tables e below (s₁.setTop (mkF m 0 #[oR r0] [])) t → Steps p.tables e below (s₁.setTop (entryFrame m #[(.ref r0)] 1)) t := fun t k => castTop (efm23 m r0) k
  obtain ⟨T101, X101, e101, st101⟩ := getF X0 hx hZ hown (host := "") (Or.inl (own_w hw 63 rfl)) Via.refl e0 F_size_r0 (g := (mkF m 1 #[oR r0] [(.ref r0)])) rfl rfl (hb hby d23_1)
  obtain ⟨fs, hr, hrun, hended, hW, hsame⟩ := X101.leave (v := some (.int n)) (fun h => by rw [Bd.returns] at h; cases h)
  refine ⟨_, _, pre0 _ ?_, hrun, hended, _, _, rfl, ?_, ⟨_, rfl⟩, hW, hsame.mono (by decide) (by decide)⟩
  · show own_S p e below s₁ m 0 #[oR r0] [] _
    refine XS.aloadN X0.here hx rfl (hb hby d23_0) rfl rfl ?_
    show own_S p e below s₁ m 1 _ [(.ref r0)] _
    refine st101 _ ?_
    show own_S p e below T101 m 4 _ [(.int n)] _
    exact retOut X101 hx Bd.returns rfl (Or.inl ⟨rfl, Or.inl rfl, _, rfl⟩) (hb hby d23_4) hr
  · show Qm23 Z r0 n h0 n0 _ T101.heap _
    rw [e101]
    exact ⟨rfl, N0, rfl⟩
theorem d21_0 : decode k21 0 = .ok (.iload_n 0, 1) := by decide +kernel
theorem d21_1 : decode k21 1 = .ok (.ifCond .lt 8, 3) := by decide +kernel
theorem d21_4 : decode k21 4 = .ok (.iload_n 0, 1) := by decide +kernel
theorem d21_5 : decode k21 5 = .ok (.iload_n 1, 1) := by decide +kernel
theorem d21_6 : decode k21 6 = .ok (.if_icmp .lt 10, 3) := by decide +kernel
theorem d21_16 : decode k21 16 = .ok (.iload_n 0, 1) := by decide +kernel
theorem d21_17 : decode k21 17 = .ok (.ireturn, 1) := by decide +kernel
theorem pn5 : plainName "jdk/internal/util/Preconditions" = true := by first | (simp [plainName, overriddenIn]; done) | decide +kernel
theorem efm21 (m : MethodId) (p0 : Int32) (p1 : Int32) : entryFrame m #[(.int p0), (.int p1), .null] 3 = mkF m 0 #[oI p0, oI p1, .val .null] [] := by first | (simp [entryFrame, mkF, argsToLocals, Value.category]; done) | rfl
def Qm21 (Z : State) (p0 : Int32) (p1 : Int32) (h0 : Heap) (n0 : Nat) (v : Option Value) (h : Heap) (L : List Loc) : Prop := v = some (.int p0) ∧ Fr n0 L ∧ (h = h0)
set_option maxRecDepth 65536 in
set_option maxHeartbeats 40000000 in
theorem rmm21 (l : Launch) (Z : State) (a0 : Array Value) (hw : own_HW Z a0) (ws : List Jvm.Cond) (p0 : Int32) (p1 : Int32) (h0 : Heap) (n0 : Nat) (Z0 : n0 ≤ h0.size) (hk0 : ¬ p0 < (0 : Int32)) (hk1 : p0 < p1) :
    MetFree l (⟨"jdk/internal/util/Preconditions", "checkIndex", "(IILjava/util/function/BiFunction;)I"⟩ : MethodName) (head1 (Jvm.Cond.code (⟨"jdk/internal/util/Preconditions", "checkIndex", "(IILjava/util/function/BiFunction;)I"⟩ : MethodName) jdk_41_method_11_code 3 (some .int) :: ws) ({ frames := 0, cells := 0, slots := 0, locals := 0 } : Room)) (fun a U => a = #[(.int p0), (.int p1), .null] ∧ Z.Warmed39 U.vm ∧ U.heap = h0) (fun _ _ _ _ _ => True) (fun _ U o U' => ∃ v L, o = .returned v ∧ Qm21 Z p0 p1 h0 n0 v U'.heap L ∧ FrameEnd U o U' L ({ frames := 0, cells := 0, slots := 0, locals := 0 } : Room).cells ({ frames := 0, cells := 0, slots := 0, locals := 0 } : Room).slots) := by
  refine MetFree.of_bodySF (plainFor_of_name pn5) hisR ?_
  intro p e s m args below meth c s₁ Bd hml0 hP hK
  obtain ⟨rfl, hZ, hh⟩ := hP
  have hx := Bd.exec
  have hby := Bd.bytes
  have hml : c.maxLocals = 3 := hml0
  have hown : s.vm.findClass "jdk/internal/util/Preconditions" = some m.cls := findClass_of_methodNamed Bd.named
  have hnm := (name_of_methodNamed Bd.named Bd.method).1
  have X0 : Stand p l e ({ frames := 0, cells := 0, slots := 0, locals := 0 } : Room) s m #[(.int p0), (.int p1), .null] below meth c s₁ [] 0 0 := Stand.of_body Bd
  have e0 : s₁.heap = h0 := by rw [← hh, Bd.state]; rfl
  have N0 := Fr.nil n0
  have pre0 : ∀ t, Steps p.tables e below (s₁.setTop (mkF m 0 #[oI p0, oI p1, .val .null] [])) t → Steps p.tables e below (s₁.setTop (entryFrame m #[(.int p0), (.int p1), .null] 3)) t := fun t k => castTop (efm21 m p0 p1) k
  obtain ⟨fs, hr, hrun, hended, hW, hsame⟩ := X0.leave (v := some (.int p0)) (fun h => by rw [Bd.returns] at h; cases h)
  refine ⟨_, _, pre0 _ ?_, hrun, hended, _, _, rfl, ?_, ⟨_, rfl⟩, hW, hsame.mono (by decide) (by decide)⟩
  · show own_S p e below s₁ m 0 #[oI p0, oI p1, .val .null] [] _
    refine XS.iloadN X0.here hx rfl (hb hby d21_0) rfl ?_
    refine XS.ifNo X0.here hx rfl (hb hby d21_1) rfl ((if0 _ _).trans (flt (hk0 : ¬ (p0 < (0 : Int32)))).1) ?_
    refine XS.iloadN X0.here hx rfl (hb hby d21_4) rfl ?_
    refine XS.iloadN X0.here hx rfl (hb hby d21_5) rfl ?_
    show own_S p e below s₁ m 6 _ [(.int p1), (.int p0)] _
    refine XS.icmpYes X0.here hx rfl (pc0 := 6) (pc' := 16) rfl (hb hby d21_6) rfl (tlt (hk1 : p0 < p1)).1 (by decide) (by decide) ?_
    refine XS.iloadN X0.here hx rfl (hb hby d21_16) rfl ?_
    show own_S p e below s₁ m 17 _ [(.int p0)] _
    exact retOut X0 hx Bd.returns rfl (Or.inl ⟨rfl, Or.inl rfl, _, rfl⟩) (hb hby d21_17) hr
  · show Qm21 Z p0 p1 h0 n0 _ s₁.heap _
    rw [e0]
    exact ⟨rfl, N0, rfl⟩
theorem pd6 : parseMethodDescriptor "(IILjava/util/function/BiFunction;)I" = some ⟨[.int, .int, (.object "java/util/function/BiFunction")], some .int⟩ := by decide +kernel
theorem d20_0 : decode k20 0 = .ok (.iload_n 0, 1) := by decide +kernel
theorem d20_1 : decode k20 1 = .ok (.iload_n 1, 1) := by decide +kernel
theorem d20_2 : decode k20 2 = .ok (.aconst_null, 1) := by decide +kernel
theorem d20_3 : decode k20 3 = .ok (.invokestatic 105, 3) := by decide +kernel
theorem d20_6 : decode k20 6 = .ok (.ireturn, 1) := by decide +kernel
theorem pn6 : plainName "java/util/Objects" = true := by first | (simp [plainName, overriddenIn]; done) | decide +kernel
theorem efm20 (m : MethodId) (p0 : Int32) (p1 : Int32) : entryFrame m #[(.int p0), (.int p1)] 2 = mkF m 0 #[oI p0, oI p1] [] := by first | (simp [entryFrame, mkF, argsToLocals, Value.category]; done) | rfl
def Qm20 (Z : State) (p0 : Int32) (p1 : Int32) (h0 : Heap) (n0 : Nat) (v : Option Value) (h : Heap) (L : List Loc) : Prop := v = some (.int p0) ∧ Fr n0 L ∧ (h = h0)
set_option maxRecDepth 65536 in
set_option maxHeartbeats 40000000 in
theorem rmm20 (l : Launch) (Z : State) (a0 : Array Value) (hw : own_HW Z a0) (ws : List Jvm.Cond) (p0 : Int32) (p1 : Int32) (h0 : Heap) (n0 : Nat) (Z0 : n0 ≤ h0.size) (hk0 : ¬ p0 < (0 : Int32)) (hk1 : p0 < p1) :
    MetFree l (⟨"java/util/Objects", "checkIndex", "(II)I"⟩ : MethodName) (head1 (Jvm.Cond.code (⟨"java/util/Objects", "checkIndex", "(II)I"⟩ : MethodName) jdk_31_method_17_code 2 (some .int) :: ws) ({ frames := 1, cells := 0, slots := 0, locals := 14 } : Room)) (fun a U => a = #[(.int p0), (.int p1)] ∧ Z.Warmed39 U.vm ∧ U.heap = h0) (fun _ _ _ _ _ => True) (fun _ U o U' => ∃ v L, o = .returned v ∧ Qm20 Z p0 p1 h0 n0 v U'.heap L ∧ FrameEnd U o U' L ({ frames := 1, cells := 0, slots := 0, locals := 14 } : Room).cells ({ frames := 1, cells := 0, slots := 0, locals := 14 } : Room).slots) := by
  refine MetFree.of_bodySF (plainFor_of_name pn6) hisR ?_
  intro p e s m args below meth c s₁ Bd hml0 hP hK
  obtain ⟨rfl, hZ, hh⟩ := hP
  have hx := Bd.exec
  have hby := Bd.bytes
  have hml : c.maxLocals = 2 := hml0
  have hown : s.vm.findClass "java/util/Objects" = some m.cls := findClass_of_methodNamed Bd.named
  have hnm := (name_of_methodNamed Bd.named Bd.method).1
  have X0 : Stand p l e ({ frames := 1, cells := 0, slots := 0, locals := 14 } : Room) s m #[(.int p0), (.int p1)] below meth c s₁ [] 0 0 := Stand.of_body Bd
  have e0 : s₁.heap = h0 := by rw [← hh, Bd.state]; rfl
  have N0 := Fr.nil n0
  have pre0 : ∀ t, Steps p.tables e below (s₁.setTop (mkF m 0 #[oI p0, oI p1] [])) t → Steps p.tables e below (s₁.setTop (entryFrame m #[(.int p0), (.int p1)] 2)) t := fun t k => castTop (efm20 m p0 p1) k
  obtain ⟨_, T101, L101, X101, hQ101, st101⟩ := own_cS X0 hx hZ hw hown (W := 0) (rmm21 l Z a0 hw [] p0 p1 h0 n0 Z0 hk0 hk1) (by decide) (by decide) (by decide) 132 rfl 133 rfl 134 rfl 135 rfl e0 (g := (mkF m 3 #[oI p0, oI p1] [.null, (.int p1), (.int p0)])) rfl (by rw [hml]; rfl) (argsL := [(.int p0), (.int p1), .null]) (rest := []) (lenOf pd6 rfl) rfl (Nat.le_of_eq rfl) (hb hby d20_3) rfl (cN := 0) rfl (by decide) (sN := 0) rfl (by decide)
  obtain ⟨rfl, Nq101, P101_0⟩ := hQ101
  have N101 := Fr.app N0 Nq101
  obtain ⟨fs, hr, hrun, hended, hW, hsame⟩ := X101.leave (v := some (.int p0)) (fun h => by rw [Bd.returns] at h; cases h)
  refine ⟨_, _, pre0 _ ?_, hrun, hended, _, _, rfl, ?_, ⟨_, rfl⟩, hW, hsame.mono (by decide) (by decide)⟩
  · show own_S p e below s₁ m 0 #[oI p0, oI p1] [] _
    refine XS.iloadN X0.here hx rfl (hb hby d20_0) rfl ?_
    refine XS.iloadN X0.here hx rfl (hb hby d20_1) rfl ?_
    show own_S p e below s₁ m 2 _ [(.int p1), (.int p0)] _
    refine XS.aconstNull X0.here hx rfl (hb hby d20_2) ?_
    show own_S p e below s₁ m 3 _ [.null, (.int p1), (.int p0)] _
    refine st101.trans ?_
    show own_S p e below T101 m 6 _ [(.int p0)] _
    exact retOut X101 hx Bd.returns rfl (Or.inl ⟨rfl, Or.inl rfl, _, rfl⟩) (hb hby d20_6) hr
  · show Qm20 Z p0 p1 h0 n0 _ T101.heap _
    rw [P101_0]
    exact ⟨rfl, N101, rfl⟩
theorem d22_0 : decode k22 0 = .ok (.aload_n 0, 1) := by decide +kernel
theorem d22_1 : decode k22 1 = .ok (.getfield 9, 3) := by decide +kernel
theorem d22_4 : decode k22 4 = .ok (.iload_n 1, 1) := by decide +kernel
theorem d22_5 : decode k22 5 = .ok (.aaload, 1) := by decide +kernel
theorem d22_6 : decode k22 6 = .ok (.areturn, 1) := by decide +kernel
theorem efm22 (m : MethodId) (r0 : Addr) : entryFrame m #[(.ref r0), (.int 0)] 2 = mkF m 0 #[oR r0, oI 0] [] := by first | (simp [entryFrame, mkF, argsToLocals, Value.category]; done) | rfl
def Qm22 (Z : State) (r0 : Addr) (el : Addr) (x : Addr) (kel : ClassId) (cap : Int32) (vs : List Value) (h0 : Heap) (n0 : Nat) (v : Option Value) (h : Heap) (L : List Loc) : Prop := v = some (.ref x) ∧ Fr n0 L ∧ (h = h0)
set_option maxRecDepth 65536 in
set_option maxHeartbeats 40000000 in
theorem rmm22 (l : Launch) (Z : State) (a0 : Array Value) (hw : own_HW Z a0) (ws : List Jvm.Cond) (r0 : Addr) (el : Addr) (x : Addr) (kel : ClassId) (cap : Int32) (vs : List Value) (h0 : Heap) (n0 : Nat) (Z0 : n0 ≤ h0.size) (F_elementData_r0 : Fld Z h0 r0 kAL "elementData" kOA (.ref el)) (V_el : Arv Z h0 el kel (.object kOB) cap vs .null) (hin : ¬ (0 : Int32) < (0 : Int32) ∧ (0 : Int32) < cap) (hg : vs.getD (0 : Int32).toNatClampNeg .null = .ref x) :
    MetFree l (⟨kAL, "elementData", "(I)Ljava/lang/Object;"⟩ : MethodName) (head1 (Jvm.Cond.code (⟨kAL, "elementData", "(I)Ljava/lang/Object;"⟩ : MethodName) jdk_38_method_18_code 2 (some (.object kOB)) :: ws) ({ frames := 0, cells := 0, slots := 0, locals := 0 } : Room)) (fun a U => a = #[(.ref r0), (.int 0)] ∧ Z.Warmed39 U.vm ∧ U.heap = h0) (fun _ _ _ _ _ => True) (fun _ U o U' => ∃ v L, o = .returned v ∧ Qm22 Z r0 el x kel cap vs h0 n0 v U'.heap L ∧ FrameEnd U o U' L ({ frames := 0, cells := 0, slots := 0, locals := 0 } : Room).cells ({ frames := 0, cells := 0, slots := 0, locals := 0 } : Room).slots) := by
  refine MetFree.of_bodySF (plainFor_of_name pn2) hisR ?_
  intro p e s m args below meth c s₁ Bd hml0 hP hK
  obtain ⟨rfl, hZ, hh⟩ := hP
  have hx := Bd.exec
  have hby := Bd.bytes
  have hml : c.maxLocals = 2 := hml0
  have hown : s.vm.findClass kAL = some m.cls := findClass_of_methodNamed Bd.named
  have hnm := (name_of_methodNamed Bd.named Bd.method).1
  have X0 : Stand p l e ({ frames := 0, cells := 0, slots := 0, locals := 0 } : Room) s m #[(.ref r0), (.int 0)] below meth c s₁ [] 0 0 := Stand.of_body Bd
  have e0 : s₁.heap = h0 := by rw [← hh, Bd.state]; rfl
  have N0 := Fr.nil n0
  have pre0 : ∀ t, Steps p.tables e below (s₁.setTop (mkF m 0 #[oR r0, oI 0] [])) t → Steps p.tables e below (s₁.setTop (entryFrame m #[(.ref r0), (.int 0)] 2)) t := fun t k => castTop (efm22 m r0) k
  obtain ⟨T101, X101, e101, st101⟩ := getF X0 hx hZ hown (host := "") (Or.inl (own_w hw 24 rfl)) Via.refl e0 F_elementData_r0 (g := (mkF m 1 #[oR r0, oI 0] [(.ref r0)])) rfl rfl (hb hby d22_1)
  obtain ⟨cl102, Ar102, qk102, Sz102, Nz102, Hh102, Gg102⟩ := id V_el
  have hin103 : ¬ ((0 : Int32) < 0 ∨ cl102.slots.size ≤ ((0 : Int32)).toNatClampNeg) := inb_of Sz102 hin
  have hat103 : cl102.slots[((0 : Int32)).toNatClampNeg]? = some (.ref x) := Has.at Hh102 hin103 hg
  obtain ⟨fs, hr, hrun, hended, hW, hsame⟩ := X101.leave (v := some (.ref x)) (fun h => by rw [Bd.returns] at h; cases h)
  refine ⟨_, _, pre0 _ ?_, hrun, hended, _, _, rfl, ?_, ⟨_, rfl⟩, hW, hsame.mono (by decide) (by decide)⟩
  · show own_S p e below s₁ m 0 #[oR r0, oI 0] [] _
    refine XS.aloadN X0.here hx rfl (hb hby d22_0) rfl rfl ?_
    show own_S p e below s₁ m 1 _ [(.ref r0)] _
    refine st101 _ ?_
    show own_S p e below T101 m 4 _ [(.ref el)] _
    refine XS.iloadN X101.here hx rfl (hb hby d22_4) rfl ?_
    show own_S p e below T101 m 5 _ [(.int 0), (.ref el)] _
    refine X101.aaload hx (j := (0 : Int32)) (v := (.ref x)) (by rw [e101]; exact Ar102.1) (State.isArrayOf_alike hZ.alike Ar102.2.1) rfl Ar102.2.2 hin103 hat103 (g := (mkF m 5 #[oR r0, oI 0] [(.int 0), (.ref el)])) rfl rfl (hb hby d22_5) _ ?_
    show own_S p e below T101 m 6 _ [(.ref x)] _
    exact retOut X101 hx Bd.returns rfl (Or.inr (Or.inr (Or.inr (Or.inr ⟨rfl, rfl, rfl⟩)))) (hb hby d22_6) hr
  · show Qm22 Z r0 el x kel cap vs h0 n0 _ T101.heap _
    rw [e101]
    exact ⟨rfl, N0, rfl⟩
theorem pd7 : parseMethodDescriptor "(I)Ljava/lang/Object;" = some ⟨[.int], some (.object kOB)⟩ := by decide +kernel
theorem d19_0 : decode k19 0 = .ok (.iload_n 1, 1) := by decide +kernel
theorem d19_1 : decode k19 1 = .ok (.aload_n 0, 1) := by decide +kernel
theorem d19_2 : decode k19 2 = .ok (.getfield 48, 3) := by decide +kernel
theorem d19_5 : decode k19 5 = .ok (.invokestatic 118, 3) := by decide +kernel
theorem d19_8 : decode k19 8 = .ok (.pop, 1) := by decide +kernel
theorem d19_9 : decode k19 9 = .ok (.aload_n 0, 1) := by decide +kernel
theorem d19_10 : decode k19 10 = .ok (.iload_n 1, 1) := by decide +kernel
theorem d19_11 : decode k19 11 = .ok (.invokevirtual 123, 3) := by decide +kernel
theorem d19_14 : decode k19 14 = .ok (.areturn, 1) := by decide +kernel
theorem efm19 (m : MethodId) (r0 : Addr) : entryFrame m #[(.ref r0), (.int 0)] 2 = mkF m 0 #[oR r0, oI 0] [] := by first | (simp [entryFrame, mkF, argsToLocals, Value.category]; done) | rfl
def Qm19 (Z : State) (r0 : Addr) (el : Addr) (x : Addr) (kel : ClassId) (cap : Int32) (vs : List Value) (n : Int32) (h0 : Heap) (n0 : Nat) (v : Option Value) (h : Heap) (L : List Loc) : Prop := v = some (.ref x) ∧ Fr n0 L ∧ (h = h0)
set_option maxRecDepth 65536 in
set_option maxHeartbeats 40000000 in
theorem rmm19 (l : Launch) (Z : State) (a0 : Array Value) (hw : own_HW Z a0) (ws : List Jvm.Cond) (r0 : Addr) (el : Addr) (x : Addr) (kel : ClassId) (cap : Int32) (vs : List Value) (n : Int32) (h0 : Heap) (n0 : Nat) (Z0 : n0 ≤ h0.size) (F_elementData_r0 : Fld Z h0 r0 kAL "elementData" kOA (.ref el)) (V_el : Arv Z h0 el kel (.object kOB) cap vs .null) (hin : ¬ (0 : Int32) < (0 : Int32) ∧ (0 : Int32) < cap) (hg : vs.getD (0 : Int32).toNatClampNeg .null = .ref x) (F_size_r0 : Fld Z h0 r0 kAL "size" "I" (.int n)) (h1 : (0 : Int32) < n) (E_r0 : Exa Z h0 r0 kAL) :
    MetFree l (⟨kAL, "get", "(I)Ljava/lang/Object;"⟩ : MethodName) (head1 (Jvm.Cond.code (⟨kAL, "get", "(I)Ljava/lang/Object;"⟩ : MethodName) jdk_38_method_20_code 2 (some (.object kOB)) :: ws) ({ frames := 2, cells := 0, slots := 0, locals := 27 } : Room)) (fun a U => a = #[(.ref r0), (.int 0)] ∧ Z.Warmed39 U.vm ∧ U.heap = h0) (fun _ _ _ _ _ => True) (fun _ U o U' => ∃ v L, o = .returned v ∧ Qm19 Z r0 el x kel cap vs n h0 n0 v U'.heap L ∧ FrameEnd U o U' L ({ frames := 2, cells := 0, slots := 0, locals := 27 } : Room).cells ({ frames := 2, cells := 0, slots := 0, locals := 27 } : Room).slots) := by
  refine MetFree.of_bodySF (plainFor_of_name pn2) hisR ?_
  intro p e s m args below meth c s₁ Bd hml0 hP hK
  obtain ⟨rfl, hZ, hh⟩ := hP
  have hx := Bd.exec
  have hby := Bd.bytes
  have hml : c.maxLocals = 2 := hml0
  have hown : s.vm.findClass kAL = some m.cls := findClass_of_methodNamed Bd.named
  have hnm := (name_of_methodNamed Bd.named Bd.method).1
  have X0 : Stand p l e ({ frames := 2, cells := 0, slots := 0, locals := 27 } : Room) s m #[(.ref r0), (.int 0)] below meth c s₁ [] 0 0 := Stand.of_body Bd
  have e0 : s₁.heap = h0 := by rw [← hh, Bd.state]; rfl
  have N0 := Fr.nil n0
  have pre0 : ∀ t, Steps p.tables e below (s₁.setTop (mkF m 0 #[oR r0, oI 0] [])) t → Steps p.tables e below (s₁.setTop (entryFrame m #[(.ref r0), (.int 0)] 2)) t := fun t k => castTop (efm19 m r0) k
  obtain ⟨T101, X101, e101, st101⟩ := getF X0 hx hZ hown (host := "") (Or.inl (own_w hw 63 rfl)) Via.refl e0 F_size_r0 (g := (mkF m 2 #[oR r0, oI 0] [(.ref r0), (.int 0)])) rfl rfl (hb hby d19_2)
  obtain ⟨_, T102, L102, X102, hQ102, st102⟩ := own_cS X101 hx hZ hw hown (W := 0) (rmm20 l Z a0 hw [] (0 : Int32) n h0 n0 Z0 (by decide) h1) (by decide) (by decide) (by decide) 129 rfl 130 rfl 111 rfl 131 rfl e101 (g := (mkF m 5 #[oR r0, oI 0] [(.int n), (.int 0)])) rfl (by rw [hml]; rfl) (argsL := [(.int 0), (.int n)]) (rest := []) (lenOf pd2 rfl) rfl (Nat.le_of_eq rfl) (hb hby d19_5) rfl (cN := 0) rfl (by decide) (sN := 0) rfl (by decide)
  obtain ⟨rfl, Nq102, P102_0⟩ := hQ102
  have N102 := Fr.app N0 Nq102
  obtain ⟨_, T103, L103, X103, hQ103, st103⟩ := own_cV X102 hx hZ hw hown (b := r0) (W := 0) (rmm22 l Z a0 hw [] r0 el x kel cap vs h0 n0 Z0 F_elementData_r0 V_el hin hg) (by decide) (by decide) (by decide) 136 rfl 137 rfl 139 rfl 138 rfl 140 rfl 2 rfl P102_0 E_r0 (g := (mkF m 11 #[oR r0, oI 0] [(.int 0), (.ref r0)])) rfl (by rw [hml]; rfl) (argsL := [(.int 0)]) (rest := []) (lenOf pd7 rfl) rfl (Nat.le_of_eq rfl) (hb hby d19_11) rfl (cN := 0) rfl (by decide) (sN := 0) rfl (by decide)
  obtain ⟨rfl, Nq103, P103_0⟩ := hQ103
  have N103 := Fr.app N102 Nq103
  obtain ⟨fs, hr, hrun, hended, hW, hsame⟩ := X103.leave (v := some (.ref x)) (fun h => by rw [Bd.returns] at h; cases h)
  refine ⟨_, _, pre0 _ ?_, hrun, hended, _, _, rfl, ?_, ⟨_, rfl⟩, hW, hsame.mono (by decide) (by decide)⟩
  · show own_S p e below s₁ m 0 #[oR r0, oI 0] [] _
    refine XS.iloadN X0.here hx rfl (hb hby d19_0) rfl ?_
    refine XS.aloadN X0.here hx rfl (hb hby d19_1) rfl rfl ?_
    show own_S p e below s₁ m 2 _ [(.ref r0), (.int 0)] _
    refine st101 _ ?_
    show own_S p e below T101 m 5 _ [(.int n), (.int 0)] _
    refine st102.trans ?_
    show own_S p e below T102 m 8 _ [(.int 0)] _
    refine XS.pop X102.here hx rfl (hb hby d19_8) rfl rfl ?_
    show own_S p e below T102 m 9 _ [] _
    refine XS.aloadN X102.here hx rfl (hb hby d19_9) rfl rfl ?_
    refine XS.iloadN X102.here hx rfl (hb hby d19_10) rfl ?_
    show own_S p e below T102 m 11 #[oR r0, oI 0] [(.int 0), (.ref r0)] _
    refine st103.trans ?_
    show own_S p e below T103 m 14 _ [(.ref x)] _
    exact retOut X103 hx Bd.returns rfl (Or.inr (Or.inr (Or.inr (Or.inr ⟨rfl, rfl, rfl⟩)))) (hb hby d19_14) hr
  · show Qm19 Z r0 el x kel cap vs n h0 n0 _ T103.heap _
    rw [P103_0]
    exact ⟨rfl, N103, rfl⟩
theorem sn3 {Z : State} {a0 : Array Value} (hw : own_HW Z a0) : Jvm.RoadKit.slotOf Z kITR "lastRet" "I" ≠ Jvm.RoadKit.slotOf Z kITR "this$0" "Ljava/util/ArrayList;" := slot_ne (Or.inl (own_w hw 173 rfl)) (Or.inr (own_w hw 170 rfl)) (by decide) (t := .int) (t' := (.object kAL)) (by decide) (by decide)
theorem sn4 {Z : State} {a0 : Array Value} (hw : own_HW Z a0) : Jvm.RoadKit.slotOf Z kITR "expectedModCount" "I" ≠ Jvm.RoadKit.slotOf Z kITR "this$0" "Ljava/util/ArrayList;" := slot_ne (Or.inl (own_w hw 176 rfl)) (Or.inr (own_w hw 170 rfl)) (by decide) (t := .int) (t' := (.object kAL)) (by decide) (by decide)
theorem sn5 {Z : State} {a0 : Array Value} (hw : own_HW Z a0) : Jvm.RoadKit.slotOf Z kITR "expectedModCount" "I" ≠ Jvm.RoadKit.slotOf Z kITR "lastRet" "I" := slot_ne (Or.inl (own_w hw 176 rfl)) (Or.inl (own_w hw 173 rfl)) (by decide) (t := .int) (t' := .int) (by decide) (by decide)
theorem sn6 {Z : State} {a0 : Array Value} (hw : own_HW Z a0) : Jvm.RoadKit.slotOf Z kITR "cursor" "I" ≠ Jvm.RoadKit.slotOf Z kITR "this$0" "Ljava/util/ArrayList;" := slot_ne (Or.inl (own_w hw 187 rfl)) (Or.inr (own_w hw 170 rfl)) (by decide) (t := .int) (t' := (.object kAL)) (by decide) (by decide)
theorem sn7 {Z : State} {a0 : Array Value} (hw : own_HW Z a0) : Jvm.RoadKit.slotOf Z kITR "cursor" "I" ≠ Jvm.RoadKit.slotOf Z kITR "lastRet" "I" := slot_ne (Or.inl (own_w hw 187 rfl)) (Or.inl (own_w hw 173 rfl)) (by decide) (t := .int) (t' := .int) (by decide) (by decide)
theorem sn8 {Z : State} {a0 : Array Value} (hw : own_HW Z a0) : Jvm.RoadKit.slotOf Z kITR "cursor" "I" ≠ Jvm.RoadKit.slotOf Z kITR "expectedModCount" "I" := slot_ne (Or.inl (own_w hw 187 rfl)) (Or.inl (own_w hw 176 rfl)) (by decide) (t := .int) (t' := .int) (by decide) (by decide)
theorem d26_0 : decode k26 0 = .ok (.aload_n 0, 1) := by decide +kernel
theorem d26_1 : decode k26 1 = .ok (.aload_n 1, 1) := by decide +kernel
theorem d26_2 : decode k26 2 = .ok (.putfield 1, 3) := by decide +kernel
theorem d26_5 : decode k26 5 = .ok (.aload_n 0, 1) := by decide +kernel
theorem d26_6 : decode k26 6 = .ok (.invokespecial 7, 3) := by decide +kernel
theorem d26_9 : decode k26 9 = .ok (.aload_n 0, 1) := by decide +kernel
theorem d26_10 : decode k26 10 = .ok (.iconst (-1), 1) := by decide +kernel
theorem d26_11 : decode k26 11 = .ok (.putfield 13, 3) := by decide +kernel
theorem d26_14 : decode k26 14 = .ok (.aload_n 0, 1) := by decide +kernel
theorem d26_15 : decode k26 15 = .ok (.aload_n 0, 1) := by decide +kernel
theorem d26_16 : decode k26 16 = .ok (.getfield 1, 3) := by decide +kernel
theorem d26_19 : decode k26 19 = .ok (.getfield 17, 3) := by decide +kernel
theorem d26_22 : decode k26 22 = .ok (.putfield 22, 3) := by decide +kernel
theorem d26_25 : decode k26 25 = .ok (.return_, 1) := by decide +kernel
theorem pn7 : plainName kITR = true := by first | (simp [plainName, overriddenIn]; done) | decide +kernel
theorem efm26 (m : MethodId) (r0 : Addr) (r1 : Addr) : entryFrame m #[(.ref r0), (.ref r1)] 2 = mkF m 0 #[oR r0, oR r1] [] := by first | (simp [entryFrame, mkF, argsToLocals, Value.category]; done) | rfl
def Qm26 (Z : State) (r0 : Addr) (r1 : Addr) (w1 : Value) (w2 : Value) (w3 : Value) (w4 : Value) (mc : Int32) (h0 : Heap) (n0 : Nat) (v : Option Value) (h : Heap) (L : List Loc) : Prop := v = none ∧ Fr n0 L ∧ (Keep h0 h [r0]) ∧ (Fld Z h r0 kITR "cursor" "I" w1) ∧ (Fld Z h r0 kITR "lastRet" "I" (.int (-1))) ∧ (Fld Z h r0 kITR "expectedModCount" "I" (.int mc)) ∧ (Fld Z h r0 kITR "this$0" "Ljava/util/ArrayList;" (.ref r1))
set_option maxRecDepth 65536 in
set_option maxHeartbeats 40000000 in
theorem rmm26 (l : Launch) (Z : State) (a0 : Array Value) (hw : own_HW Z a0) (ws : List Jvm.Cond) (r0 : Addr) (r1 : Addr) (w1 : Value) (w2 : Value) (w3 : Value) (w4 : Value) (mc : Int32) (h0 : Heap) (n0 : Nat) (Z0 : n0 ≤ h0.size) (E_r0 : Exa Z h0 r0 kITR) (E_r1 : Exa Z h0 r1 kAL) (g_r0 : n0 ≤ r0) (F_cursor_r0 : Fld Z h0 r0 kITR "cursor" "I" w1) (F_lastRet_r0 : Fld Z h0 r0 kITR "lastRet" "I" w2) (F_expectedModCount_r0 : Fld Z h0 r0 kITR "expectedModCount" "I" w3) (F_this_0_r0 : Fld Z h0 r0 kITR "this$0" "Ljava/util/ArrayList;" w4) (F_modCount_r1 : Fld Z h0 r1 kABL "modCount" "I" (.int mc)) :
    MetFree l (⟨kITR, "<init>", "(Ljava/util/ArrayList;)V"⟩ : MethodName) (head1 (Jvm.Cond.code (⟨kITR, "<init>", "(Ljava/util/ArrayList;)V"⟩ : MethodName) jdk_49_method_1_code 2 none :: ws) ({ frames := 1, cells := 0, slots := 0, locals := 12 } : Room)) (fun a U => a = #[(.ref r0), (.ref r1)] ∧ Z.Warmed39 U.vm ∧ U.heap = h0) (fun _ _ _ _ _ => True) (fun _ U o U' => ∃ v L, o = .returned v ∧ Qm26 Z r0 r1 w1 w2 w3 w4 mc h0 n0 v U'.heap L ∧ FrameEnd U o U' L ({ frames := 1, cells := 0, slots := 0, locals := 12 } : Room).cells ({ frames := 1, cells := 0, slots := 0, locals := 12 } : Room).slots) := by
  refine MetFree.of_bodySF (plainFor_of_name pn7) hisR ?_
  intro p e s m args below meth c s₁ Bd hml0 hP hK
  obtain ⟨rfl, hZ, hh⟩ := hP
  have hx := Bd.exec
  have hby := Bd.bytes
  have hml : c.maxLocals = 2 := hml0
  have hown : s.vm.findClass kITR = some m.cls := findClass_of_methodNamed Bd.named
  have hnm := (name_of_methodNamed Bd.named Bd.method).1
  have X0 : Stand p l e ({ frames := 1, cells := 0, slots := 0, locals := 12 } : Room) s m #[(.ref r0), (.ref r1)] below meth c s₁ [] 0 0 := Stand.of_body Bd
  have e0 : s₁.heap = h0 := by rw [← hh, Bd.state]; rfl
  have N0 := Fr.nil n0
  have pre0 : ∀ t, Steps p.tables e below (s₁.setTop (mkF m 0 #[oR r0, oR r1] [])) t → Steps p.tables e below (s₁.setTop (entryFrame m #[(.ref r0), (.ref r1)] 2)) t := fun t k => castTop (efm26 m r0 r1) k
  obtain ⟨T101, h101, X101, e101, W101, st101⟩ := putF X0 hx hZ hown (host := "") (Or.inl (own_w hw 169 rfl)) Via.refl e0 F_this_0_r0 E_r0 (Or.inr ⟨(own_w hw 170 rfl), rfl, hnm⟩) (own_w hw 163 rfl) (ty := (.object kAL)) (by decide) rfl rfl (g := (mkF m 2 #[oR r0, oR r1] [(.ref r1), (.ref r0)])) rfl rfl (hb hby d26_2)
  have Fw101 := F_this_0_r0.same W101
  have N101 := Fr.snoc X101 N0 g_r0
  have ZZ102 : n0 ≤ h101.size := Nat.le_trans Z0 (Nat.le_of_eq W101.size.symm)
  have KK103 : Keep h0 h101 [r0] := (Keep.refl h0 [r0]).wr W101 (Or.inl (List.mem_of_getElem? (i := 0) rfl))
  obtain ⟨T104, X104, e104, st104⟩ := initO X101 hx hZ hown (own_w hw 171 rfl) (own_w hw 19 rfl) (own_w hw 20 rfl) e101 (g := (mkF m 6 #[oR r0, oR r1] [(.ref r0)])) rfl (by rw [hml]; rfl) rfl (hb hby d26_6) (by decide) (W := 0) (by show 2 * 0 + _ ≤ _; exact Nat.le_of_eq rfl) (by decide)
  have Fc105 := (F_lastRet_r0.other W101 (Or.inr (sn3 hw)))
  obtain ⟨T106, h106, X106, e106, W106, st106⟩ := putF X104 hx hZ hown (host := "") (Or.inl (own_w hw 172 rfl)) Via.refl e104 Fc105 (E_r0.wr W101) (Or.inl (own_w hw 173 rfl)) (own_w hw 163 rfl) (ty := .int) (by decide) rfl rfl (g := (mkF m 11 #[oR r0, oR r1] [(.int (-1)), (.ref r0)])) rfl rfl (hb hby d26_11)
  have Fw106 := Fc105.same W106
  have N106 := Fr.snoc X106 N101 g_r0
  have ZZ107 : n0 ≤ h106.size := Nat.le_trans ZZ102 (Nat.le_of_eq W106.size.symm)
  have KK108 : Keep h0 h106 [r0] := KK103.wr W106 (Or.inl (List.mem_of_getElem? (i := 0) rfl))
  have Fc109 := (Fw101.other W106 (Or.inr (Ne.symm (sn3 hw))))
  obtain ⟨T110, X110, e110, st110⟩ := getF X106 hx hZ hown (host := "") (Or.inl (own_w hw 169 rfl)) Via.refl e106 Fc109 (g := (mkF m 16 #[oR r0, oR r1] [(.ref r0), (.ref r0)])) rfl rfl (hb hby d26_16)
  have Fc111 := (E_r1.keep KK108)
  have nq112 : r1 ≠ r0 := (ne_exa Fc111 ((E_r0.wr W101).wr W106) (by decide))
  have Fc113 := (F_modCount_r1.keep KK108 (ninS nq112 nin0))
  obtain ⟨T114, X114, e114, st114⟩ := getF X110 hx hZ hown (host := "") (Or.inl (own_w hw 174 rfl)) (Via.of (own_w hw 62 rfl)) e110 Fc113 (g := (mkF m 19 #[oR r0, oR r1] [(.ref r1), (.ref r0)])) rfl rfl (hb hby d26_19)
  have Fc115 := ((F_expectedModCount_r0.other W101 (Or.inr (sn4 hw))).other W106 (Or.inr (sn5 hw)))
  obtain ⟨T116, h116, X116, e116, W116, st116⟩ := putF X114 hx hZ hown (host := "") (Or.inl (own_w hw 175 rfl)) Via.refl e114 Fc115 ((E_r0.wr W101).wr W106) (Or.inl (own_w hw 176 rfl)) (own_w hw 163 rfl) (ty := .int) (by decide) rfl rfl (g := (mkF m 22 #[oR r0, oR r1] [(.int mc), (.ref r0)])) rfl rfl (hb hby d26_22)
  have Fw116 := Fc115.same W116
  have N116 := Fr.snoc X116 N106 g_r0
  have ZZ117 : n0 ≤ h116.size := Nat.le_trans ZZ107 (Nat.le_of_eq W116.size.symm)
  have KK118 : Keep h0 h116 [r0] := KK108.wr W116 (Or.inl (List.mem_of_getElem? (i := 0) rfl))
  obtain ⟨fs, hr, hrun, hended, hW, hsame⟩ := X116.leave (v := none) (fun _ => rfl)
  refine ⟨_, _, pre0 _ ?_, hrun, hended, _, _, rfl, ?_, ⟨_, rfl⟩, hW, hsame.mono (by decide) (by decide)⟩
  · show own_S p e below s₁ m 0 #[oR r0, oR r1] [] _
    refine XS.aloadN X0.here hx rfl (hb hby d26_0) rfl rfl ?_
    refine XS.aloadN X0.here hx rfl (hb hby d26_1) rfl rfl ?_
    show own_S p e below s₁ m 2 _ [(.ref r1), (.ref r0)] _
    refine st101 _ ?_
    show own_S p e below T101 m 5 _ [] _
    refine XS.aloadN X101.here hx rfl (hb hby d26_5) rfl rfl ?_
    show own_S p e below T101 m 6 _ [(.ref r0)] _
    refine st104 _ ?_
    show own_S p e below T104 m 9 _ [] _
    refine XS.aloadN X104.here hx rfl (hb hby d26_9) rfl rfl ?_
    refine XS.iconst X104.here hx rfl (hb hby d26_10) ?_
    show own_S p e below T104 m 11 #[oR r0, oR r1] [(.int (-1)), (.ref r0)] _
    refine st106 _ ?_
    show own_S p e below T106 m 14 _ [] _
    refine XS.aloadN X106.here hx rfl (hb hby d26_14) rfl rfl ?_
    refine XS.aloadN X106.here hx rfl (hb hby d26_15) rfl rfl ?_
    show own_S p e below T106 m 16 _ [(.ref r0), (.ref r0)] _
    refine st110 _ ?_
    show own_S p e below T110 m 19 _ [(.ref r1), (.ref r0)] _
    refine st114 _ ?_
    show own_S p e below T114 m 22 _ [(.int mc), (.ref r0)] _
    refine st116 _ ?_
    show own_S p e below T116 m 25 _ [] _
    exact X116.returnOut hx Bd.returns (hb hby d26_25) hr
  · show Qm26 Z r0 r1 w1 w2 w3 w4 mc h0 n0 _ T116.heap _
    rw [e116]
    exact ⟨rfl, N116, KK118, (((F_cursor_r0.other W101 (Or.inr (sn6 hw))).other W106 (Or.inr (sn7 hw))).other W116 (Or.inr (sn8 hw))), (Fw106.other W116 (Or.inr (Ne.symm (sn5 hw)))), Fw116, (Fc109.other W116 (Or.inr (Ne.symm (sn4 hw))))⟩
theorem pd8 : parseMethodDescriptor "(Ljava/util/ArrayList;)V" = some ⟨[(.object kAL)], none⟩ := by decide +kernel
theorem d25_0 : decode k25 0 = .ok (.new 267, 3) := by decide +kernel
theorem d25_3 : decode k25 3 = .ok (.dup, 1) := by decide +kernel
theorem d25_4 : decode k25 4 = .ok (.aload_n 0, 1) := by decide +kernel
theorem d25_5 : decode k25 5 = .ok (.invokespecial 269, 3) := by decide +kernel
theorem d25_8 : decode k25 8 = .ok (.areturn, 1) := by decide +kernel
theorem efm25 (m : MethodId) (r0 : Addr) : entryFrame m #[(.ref r0)] 1 = mkF m 0 #[oR r0] [] := by first | (simp [entryFrame, mkF, argsToLocals, Value.category]; done) | rfl
def Qm25 (Z : State) (r0 : Addr) (mc : Int32) (h0 : Heap) (n0 : Nat) (v : Option Value) (h : Heap) (L : List Loc) : Prop := ∃ it : Addr, v = some (.ref it) ∧ Fr n0 L ∧ (Keep h0 h []) ∧ (h0.size ≤ it) ∧ (Exa Z h it kITR) ∧ (Fld Z h it kITR "cursor" "I" (.int 0)) ∧ (Fld Z h it kITR "lastRet" "I" (.int (-1))) ∧ (Fld Z h it kITR "expectedModCount" "I" (.int mc)) ∧ (Fld Z h it kITR "this$0" "Ljava/util/ArrayList;" (.ref r0))
set_option maxRecDepth 65536 in
set_option maxHeartbeats 40000000 in
theorem rmm25 (l : Launch) (Z : State) (a0 : Array Value) (hw : own_HW Z a0) (ws : List Jvm.Cond) (r0 : Addr) (mc : Int32) (h0 : Heap) (n0 : Nat) (Z0 : n0 ≤ h0.size) (E_r0 : Exa Z h0 r0 kAL) (F_modCount_r0 : Fld Z h0 r0 kABL "modCount" "I" (.int mc)) :
    MetFree l (⟨kAL, "iterator", "()Ljava/util/Iterator;"⟩ : MethodName) (head1 (Jvm.Cond.code (⟨kAL, "iterator", "()Ljava/util/Iterator;"⟩ : MethodName) jdk_38_method_55_code 1 (some (.object "java/util/Iterator")) :: ws) ({ frames := 2, cells := 1, slots := 4, locals := 26 } : Room)) (fun a U => a = #[(.ref r0)] ∧ Z.Warmed39 U.vm ∧ U.heap = h0) (fun _ _ _ _ _ => True) (fun _ U o U' => ∃ v L, o = .returned v ∧ Qm25 Z r0 mc h0 n0 v U'.heap L ∧ FrameEnd U o U' L ({ frames := 2, cells := 1, slots := 4, locals := 26 } : Room).cells ({ frames := 2, cells := 1, slots := 4, locals := 26 } : Room).slots) := by
  refine MetFree.of_bodySF (plainFor_of_name pn2) hisR ?_
  intro p e s m args below meth c s₁ Bd hml0 hP hK
  obtain ⟨rfl, hZ, hh⟩ := hP
  have hx := Bd.exec
  have hby := Bd.bytes
  have hml : c.maxLocals = 1 := hml0
  have hown : s.vm.findClass kAL = some m.cls := findClass_of_methodNamed Bd.named
  have hnm := (name_of_methodNamed Bd.named Bd.method).1
  have X0 : Stand p l e ({ frames := 2, cells := 1, slots := 4, locals := 26 } : Room) s m #[(.ref r0)] below meth c s₁ [] 0 0 := Stand.of_body Bd
  have e0 : s₁.heap = h0 := by rw [← hh, Bd.state]; rfl
  have N0 := Fr.nil n0
  have pre0 : ∀ t, Steps p.tables e below (s₁.setTop (mkF m 0 #[oR r0] [])) t → Steps p.tables e below (s₁.setTop (entryFrame m #[(.ref r0)] 1)) t := fun t k => castTop (efm25 m r0) k
  obtain ⟨T101, h101, X101, e101, E101, A101, D101, -, st101⟩ := newO X0 hx hZ hown (own_w hw 162 rfl) (own_w hw 163 rfl) (own_w hw 164 rfl) e0 (g := (mkF m 0 #[oR r0] [])) rfl (hb hby d25_0) (by decide) (by decide)
  obtain ⟨b101, g101⟩ : ∃ z, z = h0.size := ⟨_, rfl⟩
  rw [← g101] at A101 D101 st101
  have g_b101 : n0 ≤ b101 := Nat.le_trans Z0 (Nat.le_of_eq g101.symm)
  have sz_b101 : h0.size ≤ b101 := Nat.le_trans (Keep.refl h0 []).1 (Nat.le_of_eq g101.symm)
  have ZZ102 : n0 ≤ h101.size := Nat.le_trans Z0 E101.1
  have KK103 : Keep h0 h101 [] := (Keep.refl h0 []).ext E101
  have F_this_0_b101 : Fld Z h101 b101 kITR "this$0" "Ljava/util/ArrayList;" .null := D101 (Or.inr (own_w hw 170 rfl)) (ty := (.object kAL)) (by decide)
  have F_lastRet_b101 : Fld Z h101 b101 kITR "lastRet" "I" (.int 0) := D101 (Or.inl (own_w hw 173 rfl)) (ty := .int) (by decide)
  have F_expectedModCount_b101 : Fld Z h101 b101 kITR "expectedModCount" "I" (.int 0) := D101 (Or.inl (own_w hw 176 rfl)) (ty := .int) (by decide)
  have F_cursor_b101 : Fld Z h101 b101 kITR "cursor" "I" (.int 0) := D101 (Or.inl (own_w hw 187 rfl)) (ty := .int) (by decide)
  obtain ⟨_, T104, L104, X104, hQ104, st104⟩ := own_cC X101 hx hZ hw hown (b := b101) (W := 1) (rmm26 l Z a0 hw [] b101 r0 (.int 0) (.int 0) (.int 0) .null mc h101 n0 ZZ102 A101 (E_r0.ext E101) g_b101 F_cursor_b101 F_lastRet_b101 F_expectedModCount_b101 F_this_0_b101 (F_modCount_r0.ext E101)) (by decide) (by decide) (by decide) rfl 165 rfl 166 rfl 168 rfl 164 rfl e101 (g := (mkF m 5 #[oR r0] [(.ref r0), (.ref b101), (.ref b101)])) rfl (by rw [hml]; rfl) (argsL := [(.ref r0)]) (rest := [(.ref b101)]) (lenOf pd8 rfl) rfl (Nat.le_of_eq rfl) (hb hby d25_5) rfl (cN := 1) rfl (by decide) (sN := 4) rfl (by decide)
  obtain ⟨rfl, Nq104, P104_0, P104_1, P104_2, P104_3, P104_4⟩ := hQ104
  have N104 := Fr.app N0 Nq104
  have ZZ105 : n0 ≤ T104.heap.size := Nat.le_trans ZZ102 P104_0.1
  have KK106 : Keep h0 T104.heap [] := Keep.trans KK103 P104_0 (allS (Or.inr sz_b101) all0)
  obtain ⟨fs, hr, hrun, hended, hW, hsame⟩ := X104.leave (v := some (.ref b101)) (fun h => by rw [Bd.returns] at h; cases h)
  refine ⟨_, _, pre0 _ ?_, hrun, hended, _, _, rfl, ?_, ⟨_, rfl⟩, hW, hsame.mono (by decide) (by decide)⟩
  · show own_S p e below s₁ m 0 #[oR r0] [] _
    refine st101 _ ?_
    show own_S p e below T101 m 3 _ [(.ref b101)] _
    refine XS.dup X101.here hx rfl (hb hby d25_3) rfl rfl ?_
    refine XS.aloadN X101.here hx rfl (hb hby d25_4) rfl rfl ?_
    show own_S p e below T101 m 5 _ [(.ref r0), (.ref b101), (.ref b101)] _
    refine st104.trans ?_
    show own_S p e below T104 m 8 _ [(.ref b101)] _
    exact retOut X104 hx Bd.returns rfl (Or.inr (Or.inr (Or.inr (Or.inr ⟨rfl, rfl, rfl⟩)))) (hb hby d25_8) hr
  · show Qm25 Z r0 mc h0 n0 _ T104.heap _
    exact ⟨b101, rfl, N104, KK106, sz_b101, (A101.keep P104_0), P104_1, P104_2, P104_3, P104_4⟩
theorem d27_0 : decode k27 0 = .ok (.aload_n 0, 1) := by decide +kernel
theorem d27_1 : decode k27 1 = .ok (.getfield 25, 3) := by decide +kernel
theorem d27_4 : decode k27 4 = .ok (.aload_n 0, 1) := by decide +kernel
theorem d27_5 : decode k27 5 = .ok (.getfield 1, 3) := by decide +kernel
theorem d27_8 : decode k27 8 = .ok (.getfield 28, 3) := by decide +kernel
theorem d27_11 : decode k27 11 = .ok (.if_icmp .eq 7, 3) := by decide +kernel
theorem d27_14 : decode k27 14 = .ok (.iconst 1, 1) := by decide +kernel
theorem d27_15 : decode k27 15 = .ok (.goto 4, 3) := by decide +kernel
theorem d27_19 : decode k27 19 = .ok (.ireturn, 1) := by decide +kernel
theorem ef_hn1 (m : MethodId) (r0 : Addr) : entryFrame m #[(.ref r0)] 1 = mkF m 0 #[oR r0] [] := by first | (simp [entryFrame, mkF, argsToLocals, Value.category]; done) | rfl
def Q_hn1 (Z : State) (r0 : Addr) (la : Addr) (mc : Int32) (cc : Int32) (n : Int32) (wl : Value) (h0 : Heap) (n0 : Nat) (v : Option Value) (h : Heap) (L : List Loc) : Prop := v = some (.int 1) ∧ Fr n0 L ∧ (h = h0)
set_option maxRecDepth 65536 in
set_option maxHeartbeats 40000000 in
theorem rm_hn1 (l : Launch) (Z : State) (a0 : Array Value) (hw : own_HW Z a0) (ws : List Jvm.Cond) (r0 : Addr) (la : Addr) (mc : Int32) (cc : Int32) (n : Int32) (wl : Value) (h0 : Heap) (n0 : Nat) (Z0 : n0 ≤ h0.size) (F_cursor_r0 : Fld Z h0 r0 kITR "cursor" "I" (.int cc)) (F_lastRet_r0 : Fld Z h0 r0 kITR "lastRet" "I" wl) (F_expectedModCount_r0 : Fld Z h0 r0 kITR "expectedModCount" "I" (.int mc)) (F_this_0_r0 : Fld Z h0 r0 kITR "this$0" "Ljava/util/ArrayList;" (.ref la)) (F_size_la : Fld Z h0 la kAL "size" "I" (.int n)) (hq : ¬ (cc = n)) :
    MetFree l (⟨kITR, "hasNext", "()Z"⟩ : MethodName) (head1 (Jvm.Cond.code (⟨kITR, "hasNext", "()Z"⟩ : MethodName) jdk_49_method_2_code 1 (some .boolean) :: ws) ({ frames := 0, cells := 0, slots := 0, locals := 0 } : Room)) (fun a U => a = #[(.ref r0)] ∧ Z.Warmed39 U.vm ∧ U.heap = h0) (fun _ _ _ _ _ => True) (fun _ U o U' => ∃ v L, o = .returned v ∧ Q_hn1 Z r0 la mc cc n wl h0 n0 v U'.heap L ∧ FrameEnd U o U' L ({ frames := 0, cells := 0, slots := 0, locals := 0 } : Room).cells ({ frames := 0, cells := 0, slots := 0, locals := 0 } : Room).slots) := by
  refine MetFree.of_bodySF (plainFor_of_name pn7) hisR ?_
  intro p e s m args below meth c s₁ Bd hml0 hP hK
  obtain ⟨rfl, hZ, hh⟩ := hP
  have hx := Bd.exec
  have hby := Bd.bytes
  have hml : c.maxLocals = 1 := hml0
  have hown : s.vm.findClass kITR = some m.cls := findClass_of_methodNamed Bd.named
  have hnm := (name_of_methodNamed Bd.named Bd.method).1
  have X0 : Stand p l e ({ frames := 0, cells := 0, slots := 0, locals := 0 } : Room) s m #[(.ref r0)] below meth c s₁ [] 0 0 := Stand.of_body Bd
  have e0 : s₁.heap = h0 := by rw [← hh, Bd.state]; rfl
  have N0 := Fr.nil n0
  have pre0 : ∀ t, Steps p.tables e below (s₁.setTop (mkF m 0 #[oR r0] [])) t → Steps p.tables e below (s₁.setTop (entryFrame m #[(.ref r0)] 1)) t := fun t k => castTop (ef_hn1 m r0) k
  obtain ⟨T101, X101, e101, st101⟩ := getF X0 hx hZ hown (host := "") (Or.inl (own_w hw 186 rfl)) Via.refl e0 F_cursor_r0 (g := (mkF m 1 #[oR r0] [(.ref r0)])) rfl rfl (hb hby d27_1)
  obtain ⟨T102, X102, e102, st102⟩ := getF X101 hx hZ hown (host := "") (Or.inl (own_w hw 169 rfl)) Via.refl e101 F_this_0_r0 (g := (mkF m 5 #[oR r0] [(.ref r0), (.int cc)])) rfl rfl (hb hby d27_5)
  obtain ⟨T103, X103, e103, st103⟩ := getF X102 hx hZ hown (Or.inr (own_w hw 188 rfl)) Via.refl e102 F_size_la (g := (mkF m 8 #[oR r0] [(.ref la), (.int cc)])) rfl rfl (hb hby d27_8)
  obtain ⟨fs, hr, hrun, hended, hW, hsame⟩ := X103.leave (v := some (.int 1)) (fun h => by rw [Bd.returns] at h; cases h)
  refine ⟨_, _, pre0 _ ?_, hrun, hended, _, _, rfl, ?_, ⟨_, rfl⟩, hW, hsame.mono (by decide) (by decide)⟩
  · show own_S p e below s₁ m 0 #[oR r0] [] _
    refine XS.aloadN X0.here hx rfl (hb hby d27_0) rfl rfl ?_
    show own_S p e below s₁ m 1 _ [(.ref r0)] _
    refine st101 _ ?_
    show own_S p e below T101 m 4 _ [(.int cc)] _
    refine XS.aloadN X101.here hx rfl (hb hby d27_4) rfl rfl ?_
    show own_S p e below T101 m 5 _ [(.ref r0), (.int cc)] _
    refine st102 _ ?_
    show own_S p e below T102 m 8 _ [(.ref la), (.int cc)] _
    refine st103 _ ?_
    show own_S p e below T103 m 11 _ [(.int n), (.int cc)] _
    refine XS.icmpNo X103.here hx rfl (hb hby d27_11) rfl (feq (hq : ¬ (cc = n))).1 ?_
    refine XS.iconst X103.here hx rfl (hb hby d27_14) ?_
    refine XS.goto X103.here hx rfl (pc0 := 15) (pc' := 19) rfl (hb hby d27_15) (by decide) (by decide) ?_
    show own_S p e below T103 m 19 _ [(.int 1)] _
    exact retN X103 hx (t := .boolean) Bd.returns (by simp) (hb hby d27_19) hr
  · show Q_hn1 Z r0 la mc cc n wl h0 n0 _ T103.heap _
    rw [e103]
    exact ⟨rfl, N0, rfl⟩
theorem d27_18 : decode k27 18 = .ok (.iconst 0, 1) := by decide +kernel
theorem ef_hn0 (m : MethodId) (r0 : Addr) : entryFrame m #[(.ref r0)] 1 = mkF m 0 #[oR r0] [] := by first | (simp [entryFrame, mkF, argsToLocals, Value.category]; done) | rfl
def Q_hn0 (Z : State) (r0 : Addr) (la : Addr) (mc : Int32) (cc : Int32) (n : Int32) (wl : Value) (h0 : Heap) (n0 : Nat) (v : Option Value) (h : Heap) (L : List Loc) : Prop := v = some (.int 0) ∧ Fr n0 L ∧ (h = h0)
set_option maxRecDepth 65536 in
set_option maxHeartbeats 40000000 in
theorem rm_hn0 (l : Launch) (Z : State) (a0 : Array Value) (hw : own_HW Z a0) (ws : List Jvm.Cond) (r0 : Addr) (la : Addr) (mc : Int32) (cc : Int32) (n : Int32) (wl : Value) (h0 : Heap) (n0 : Nat) (Z0 : n0 ≤ h0.size) (F_cursor_r0 : Fld Z h0 r0 kITR "cursor" "I" (.int cc)) (F_lastRet_r0 : Fld Z h0 r0 kITR "lastRet" "I" wl) (F_expectedModCount_r0 : Fld Z h0 r0 kITR "expectedModCount" "I" (.int mc)) (F_this_0_r0 : Fld Z h0 r0 kITR "this$0" "Ljava/util/ArrayList;" (.ref la)) (F_size_la : Fld Z h0 la kAL "size" "I" (.int n)) (hq : cc = n) :
    MetFree l (⟨kITR, "hasNext", "()Z"⟩ : MethodName) (head1 (Jvm.Cond.code (⟨kITR, "hasNext", "()Z"⟩ : MethodName) jdk_49_method_2_code 1 (some .boolean) :: ws) ({ frames := 0, cells := 0, slots := 0, locals := 0 } : Room)) (fun a U => a = #[(.ref r0)] ∧ Z.Warmed39 U.vm ∧ U.heap = h0) (fun _ _ _ _ _ => True) (fun _ U o U' => ∃ v L, o = .returned v ∧ Q_hn0 Z r0 la mc cc n wl h0 n0 v U'.heap L ∧ FrameEnd U o U' L ({ frames := 0, cells := 0, slots := 0, locals := 0 } : Room).cells ({ frames := 0, cells := 0, slots := 0, locals := 0 } : Room).slots) := by
  refine MetFree.of_bodySF (plainFor_of_name pn7) hisR ?_
  intro p e s m args below meth c s₁ Bd hml0 hP hK
  obtain ⟨rfl, hZ, hh⟩ := hP
  have hx := Bd.exec
  have hby := Bd.bytes
  have hml : c.maxLocals = 1 := hml0
  have hown : s.vm.findClass kITR = some m.cls := findClass_of_methodNamed Bd.named
  have hnm := (name_of_methodNamed Bd.named Bd.method).1
  have X0 : Stand p l e ({ frames := 0, cells := 0, slots := 0, locals := 0 } : Room) s m #[(.ref r0)] below meth c s₁ [] 0 0 := Stand.of_body Bd
  have e0 : s₁.heap = h0 := by rw [← hh, Bd.state]; rfl
  have N0 := Fr.nil n0
  have pre0 : ∀ t, Steps p.tables e below (s₁.setTop (mkF m 0 #[oR r0] [])) t → Steps p.tables e below (s₁.setTop (entryFrame m #[(.ref r0)] 1)) t := fun t k => castTop (ef_hn0 m r0) k
  obtain ⟨T101, X101, e101, st101⟩ := getF X0 hx hZ hown (host := "") (Or.inl (own_w hw 186 rfl)) Via.refl e0 F_cursor_r0 (g := (mkF m 1 #[oR r0] [(.ref r0)])) rfl rfl (hb hby d27_1)
  obtain ⟨T102, X102, e102, st102⟩ := getF X101 hx hZ hown (host := "") (Or.inl (own_w hw 169 rfl)) Via.refl e101 F_this_0_r0 (g := (mkF m 5 #[oR r0] [(.ref r0), (.int cc)])) rfl rfl (hb hby d27_5)
  obtain ⟨T103, X103, e103, st103⟩ := getF X102 hx hZ hown (Or.inr (own_w hw 188 rfl)) Via.refl e102 F_size_la (g := (mkF m 8 #[oR r0] [(.ref la), (.int cc)])) rfl rfl (hb hby d27_8)
  obtain ⟨fs, hr, hrun, hended, hW, hsame⟩ := X103.leave (v := some (.int 0)) (fun h => by rw [Bd.returns] at h; cases h)
  refine ⟨_, _, pre0 _ ?_, hrun, hended, _, _, rfl, ?_, ⟨_, rfl⟩, hW, hsame.mono (by decide) (by decide)⟩
  · show own_S p e below s₁ m 0 #[oR r0] [] _
    refine XS.aloadN X0.here hx rfl (hb hby d27_0) rfl rfl ?_
    show own_S p e below s₁ m 1 _ [(.ref r0)] _
    refine st101 _ ?_
    show own_S p e below T101 m 4 _ [(.int cc)] _
    refine XS.aloadN X101.here hx rfl (hb hby d27_4) rfl rfl ?_
    show own_S p e below T101 m 5 _ [(.ref r0), (.int cc)] _
    refine st102 _ ?_
    show own_S p e below T102 m 8 _ [(.ref la), (.int cc)] _
    refine st103 _ ?_
    show own_S p e below T103 m 11 _ [(.int n), (.int cc)] _
    refine XS.icmpYes X103.here hx rfl (pc0 := 11) (pc' := 18) rfl (hb hby d27_11) rfl (teq (hq : cc = n)).1 (by decide) (by decide) ?_
    refine XS.iconst X103.here hx rfl (hb hby d27_18) ?_
    show own_S p e below T103 m 19 #[oR r0] [(.int 0)] _
    exact retN X103 hx (t := .boolean) Bd.returns (by simp) (hb hby d27_19) hr
  · show Q_hn0 Z r0 la mc cc n wl h0 n0 _ T103.heap _
    rw [e103]
    exact ⟨rfl, N0, rfl⟩
theorem d29_0 : decode k29 0 = .ok (.aload_n 0, 1) := by decide +kernel
theorem d29_1 : decode k29 1 = .ok (.getfield 1, 3) := by decide +kernel
theorem d29_4 : decode k29 4 = .ok (.getfield 17, 3) := by decide +kernel
theorem d29_7 : decode k29 7 = .ok (.aload_n 0, 1) := by decide +kernel
theorem d29_8 : decode k29 8 = .ok (.getfield 22, 3) := by decide +kernel
theorem d29_11 : decode k29 11 = .ok (.if_icmp .eq 11, 3) := by decide +kernel
theorem d29_22 : decode k29 22 = .ok (.return_, 1) := by decide +kernel
theorem efm29 (m : MethodId) (r0 : Addr) : entryFrame m #[(.ref r0)] 1 = mkF m 0 #[oR r0] [] := by first | (simp [entryFrame, mkF, argsToLocals, Value.category]; done) | rfl
def Qm29 (Z : State) (r0 : Addr) (la : Addr) (mc : Int32) (h0 : Heap) (n0 : Nat) (v : Option Value) (h : Heap) (L : List Loc) : Prop := v = none ∧ Fr n0 L ∧ (h = h0)
set_option maxRecDepth 65536 in
set_option maxHeartbeats 40000000 in
theorem rmm29 (l : Launch) (Z : State) (a0 : Array Value) (hw : own_HW Z a0) (ws : List Jvm.Cond) (r0 : Addr) (la : Addr) (mc : Int32) (h0 : Heap) (n0 : Nat) (Z0 : n0 ≤ h0.size) (F_expectedModCount_r0 : Fld Z h0 r0 kITR "expectedModCount" "I" (.int mc)) (F_this_0_r0 : Fld Z h0 r0 kITR "this$0" "Ljava/util/ArrayList;" (.ref la)) (F_modCount_la : Fld Z h0 la kABL "modCount" "I" (.int mc)) :
    MetFree l (⟨kITR, "checkForComodification", "()V"⟩ : MethodName) (head1 (Jvm.Cond.code (⟨kITR, "checkForComodification", "()V"⟩ : MethodName) jdk_49_method_6_code 1 none :: ws) ({ frames := 0, cells := 0, slots := 0, locals := 0 } : Room)) (fun a U => a = #[(.ref r0)] ∧ Z.Warmed39 U.vm ∧ U.heap = h0) (fun _ _ _ _ _ => True) (fun _ U o U' => ∃ v L, o = .returned v ∧ Qm29 Z r0 la mc h0 n0 v U'.heap L ∧ FrameEnd U o U' L ({ frames := 0, cells := 0, slots := 0, locals := 0 } : Room).cells ({ frames := 0, cells := 0, slots := 0, locals := 0 } : Room).slots) := by
  refine MetFree.of_bodySF (plainFor_of_name pn7) hisR ?_
  intro p e s m args below meth c s₁ Bd hml0 hP hK
  obtain ⟨rfl, hZ, hh⟩ := hP
  have hx := Bd.exec
  have hby := Bd.bytes
  have hml : c.maxLocals = 1 := hml0
  have hown : s.vm.findClass kITR = some m.cls := findClass_of_methodNamed Bd.named
  have hnm := (name_of_methodNamed Bd.named Bd.method).1
  have X0 : Stand p l e ({ frames := 0, cells := 0, slots := 0, locals := 0 } : Room) s m #[(.ref r0)] below meth c s₁ [] 0 0 := Stand.of_body Bd
  have e0 : s₁.heap = h0 := by rw [← hh, Bd.state]; rfl
  have N0 := Fr.nil n0
  have pre0 : ∀ t, Steps p.tables e below (s₁.setTop (mkF m 0 #[oR r0] [])) t → Steps p.tables e below (s₁.setTop (entryFrame m #[(.ref r0)] 1)) t := fun t k => castTop (efm29 m r0) k
  obtain ⟨T101, X101, e101, st101⟩ := getF X0 hx hZ hown (host := "") (Or.inl (own_w hw 169 rfl)) Via.refl e0 F_this_0_r0 (g := (mkF m 1 #[oR r0] [(.ref r0)])) rfl rfl (hb hby d29_1)
  obtain ⟨T102, X102, e102, st102⟩ := getF X101 hx hZ hown (host := "") (Or.inl (own_w hw 174 rfl)) (Via.of (own_w hw 62 rfl)) e101 F_modCount_la (g := (mkF m 4 #[oR r0] [(.ref la)])) rfl rfl (hb hby d29_4)
  obtain ⟨T103, X103, e103, st103⟩ := getF X102 hx hZ hown (host := "") (Or.inl (own_w hw 175 rfl)) Via.refl e102 F_expectedModCount_r0 (g := (mkF m 8 #[oR r0] [(.ref r0), (.int mc)])) rfl rfl (hb hby d29_8)
  obtain ⟨fs, hr, hrun, hended, hW, hsame⟩ := X103.leave (v := none) (fun _ => rfl)
  refine ⟨_, _, pre0 _ ?_, hrun, hended, _, _, rfl, ?_, ⟨_, rfl⟩, hW, hsame.mono (by decide) (by decide)⟩
  · show own_S p e below s₁ m 0 #[oR r0] [] _
    refine XS.aloadN X0.here hx rfl (hb hby d29_0) rfl rfl ?_
    show own_S p e below s₁ m 1 _ [(.ref r0)] _
    refine st101 _ ?_
    show own_S p e below T101 m 4 _ [(.ref la)] _
    refine st102 _ ?_
    show own_S p e below T102 m 7 _ [(.int mc)] _
    refine XS.aloadN X102.here hx rfl (hb hby d29_7) rfl rfl ?_
    show own_S p e below T102 m 8 _ [(.ref r0), (.int mc)] _
    refine st103 _ ?_
    show own_S p e below T103 m 11 _ [(.int mc), (.int mc)] _
    refine XS.icmpYes X103.here hx rfl (pc0 := 11) (pc' := 22) rfl (hb hby d29_11) rfl (teq (rfl : mc = mc)).1 (by decide) (by decide) ?_
    show own_S p e below T103 m 22 _ [] _
    exact X103.returnOut hx Bd.returns (hb hby d29_22) hr
  · show Qm29 Z r0 la mc h0 n0 _ T103.heap _
    rw [e103]
    exact ⟨rfl, N0, rfl⟩
theorem d28_0 : decode k28 0 = .ok (.aload_n 0, 1) := by decide +kernel
theorem d28_1 : decode k28 1 = .ok (.invokevirtual 31, 3) := by decide +kernel
theorem d28_4 : decode k28 4 = .ok (.aload_n 0, 1) := by decide +kernel
theorem d28_5 : decode k28 5 = .ok (.getfield 25, 3) := by decide +kernel
theorem d28_8 : decode k28 8 = .ok (.istore_n 1, 1) := by decide +kernel
theorem d28_9 : decode k28 9 = .ok (.iload_n 1, 1) := by decide +kernel
theorem d28_10 : decode k28 10 = .ok (.aload_n 0, 1) := by decide +kernel
theorem d28_11 : decode k28 11 = .ok (.getfield 1, 3) := by decide +kernel
theorem d28_14 : decode k28 14 = .ok (.getfield 28, 3) := by decide +kernel
theorem d28_17 : decode k28 17 = .ok (.if_icmp .lt 11, 3) := by decide +kernel
theorem d28_28 : decode k28 28 = .ok (.aload_n 0, 1) := by decide +kernel
theorem d28_29 : decode k28 29 = .ok (.getfield 1, 3) := by decide +kernel
theorem d28_32 : decode k28 32 = .ok (.getfield 37, 3) := by decide +kernel
theorem d28_35 : decode k28 35 = .ok (.astore_n 2, 1) := by decide +kernel
theorem d28_36 : decode k28 36 = .ok (.iload_n 1, 1) := by decide +kernel
theorem d28_37 : decode k28 37 = .ok (.aload_n 2, 1) := by decide +kernel
theorem d28_38 : decode k28 38 = .ok (.arraylength, 1) := by decide +kernel
theorem d28_39 : decode k28 39 = .ok (.if_icmp .lt 11, 3) := by decide +kernel
theorem d28_50 : decode k28 50 = .ok (.aload_n 0, 1) := by decide +kernel
theorem d28_51 : decode k28 51 = .ok (.iload_n 1, 1) := by decide +kernel
theorem d28_52 : decode k28 52 = .ok (.iconst 1, 1) := by decide +kernel
theorem d28_53 : decode k28 53 = .ok (.iadd, 1) := by decide +kernel
theorem d28_54 : decode k28 54 = .ok (.putfield 25, 3) := by decide +kernel
theorem d28_57 : decode k28 57 = .ok (.aload_n 2, 1) := by decide +kernel
theorem d28_58 : decode k28 58 = .ok (.aload_n 0, 1) := by decide +kernel
theorem d28_59 : decode k28 59 = .ok (.iload_n 1, 1) := by decide +kernel
theorem d28_60 : decode k28 60 = .ok (.dup_x1, 1) := by decide +kernel
theorem d28_61 : decode k28 61 = .ok (.putfield 13, 3) := by decide +kernel
theorem d28_64 : decode k28 64 = .ok (.aaload, 1) := by decide +kernel
theorem d28_65 : decode k28 65 = .ok (.areturn, 1) := by decide +kernel
theorem efm28 (m : MethodId) (r0 : Addr) : entryFrame m #[(.ref r0)] 3 = mkF m 0 #[oR r0, oU, oU] [] := by first | (simp [entryFrame, mkF, argsToLocals, Value.category]; done) | rfl
def Qm28 (Z : State) (r0 : Addr) (la : Addr) (mc : Int32) (cc : Int32) (n : Int32) (wl : Value) (el : Addr) (x : Addr) (kel : ClassId) (cap : Int32) (vs : List Value) (h0 : Heap) (n0 : Nat) (v : Option Value) (h : Heap) (L : List Loc) : Prop := v = some (.ref x) ∧ Fr n0 L ∧ (Keep h0 h [r0]) ∧ (Fld Z h r0 kITR "cursor" "I" (.int (cc + (1 : Int32)))) ∧ (Fld Z h r0 kITR "lastRet" "I" (.int cc)) ∧ (Fld Z h r0 kITR "expectedModCount" "I" (.int mc)) ∧ (Fld Z h r0 kITR "this$0" "Ljava/util/ArrayList;" (.ref la))
set_option maxRecDepth 65536 in
set_option maxHeartbeats 40000000 in
theorem rmm28 (l : Launch) (Z : State) (a0 : Array Value) (hw : own_HW Z a0) (ws : List Jvm.Cond) (r0 : Addr) (la : Addr) (mc : Int32) (cc : Int32) (n : Int32) (wl : Value) (el : Addr) (x : Addr) (kel : ClassId) (cap : Int32) (vs : List Value) (h0 : Heap) (n0 : Nat) (Z0 : n0 ≤ h0.size) (E_r0 : Exa Z h0 r0 kITR) (E_la : Exa Z h0 la kAL) (g_r0 : n0 ≤ r0) (F_cursor_r0 : Fld Z h0 r0 kITR "cursor" "I" (.int cc)) (F_lastRet_r0 : Fld Z h0 r0 kITR "lastRet" "I" wl) (F_expectedModCount_r0 : Fld Z h0 r0 kITR "expectedModCount" "I" (.int mc)) (F_this_0_r0 : Fld Z h0 r0 kITR "this$0" "Ljava/util/ArrayList;" (.ref la)) (F_size_la : Fld Z h0 la kAL "size" "I" (.int n)) (F_modCount_la : Fld Z h0 la kABL "modCount" "I" (.int mc)) (F_elementData_la : Fld Z h0 la kAL "elementData" kOA (.ref el)) (V_el : Arv Z h0 el kel (.object kOB) cap vs .null) (E_el : Exa Z h0 el kOA) (h1 : cc < n) (h2 : cc < cap) (hin : ¬ cc < (0 : Int32) ∧ cc < cap) (hg : vs.getD cc.toNatClampNeg .null = .ref x) :
    MetFree l (⟨kITR, "next", "()Ljava/lang/Object;"⟩ : MethodName) (head1 (Jvm.Cond.code (⟨kITR, "next", "()Ljava/lang/Object;"⟩ : MethodName) jdk_49_method_3_code 3 (some (.object kOB)) :: ws) ({ frames := 1, cells := 0, slots := 0, locals := 12 } : Room)) (fun a U => a = #[(.ref r0)] ∧ Z.Warmed39 U.vm ∧ U.heap = h0) (fun _ _ _ _ _ => True) (fun _ U o U' => ∃ v L, o = .returned v ∧ Qm28 Z r0 la mc cc n wl el x kel cap vs h0 n0 v U'.heap L ∧ FrameEnd U o U' L ({ frames := 1, cells := 0, slots := 0, locals := 12 } : Room).cells ({ frames := 1, cells := 0, slots := 0, locals := 12 } : Room).slots) := by
  refine MetFree.of_bodySF (plainFor_of_name pn7) hisR ?_
  intro p e s m args below meth c s₁ Bd hml0 hP hK
  obtain ⟨rfl, hZ, hh⟩ := hP
  have hx := Bd.exec
  have hby := Bd.bytes
  have hml : c.maxLocals = 3 := hml0
  have hown : s.vm.findClass kITR = some m.cls := findClass_of_methodNamed Bd.named
  have hnm := (name_of_methodNamed Bd.named Bd.method).1
  have X0 : Stand p l e ({ frames := 1, cells := 0, slots := 0, locals := 12 } : Room) s m #[(.ref r0)] below meth c s₁ [] 0 0 := Stand.of_body Bd
  have e0 : s₁.heap = h0 := by rw [← hh, Bd.state]; rfl
  have N0 := Fr.nil n0
  have pre0 : ∀ t, Steps p.tables e below (s₁.setTop (mkF m 0 #[oR r0, oU, oU] [])) t → Steps p.tables e below (s₁.setTop (entryFrame m #[(.ref r0)] 3)) t := fun t k => castTop (efm28 m r0) k
  obtain ⟨_, T101, L101, X101, hQ101, st101⟩ := own_cV X0 hx hZ hw hown (b := r0) (W := 0) (rmm29 l Z a0 hw [] r0 la mc h0 n0 Z0 F_expectedModCount_r0 F_this_0_r0 F_modCount_la) (by decide) (by decide) (by decide) 197 rfl 198 rfl 200 rfl 199 rfl 201 rfl 164 rfl e0 E_r0 (g := (mkF m 1 #[oR r0, oU, oU] [(.ref r0)])) rfl (by rw [hml]; rfl) (argsL := []) (rest := []) (lenOf pd0 rfl) rfl (Nat.le_of_eq rfl) (hb hby d28_1) rfl (cN := 0) rfl (by decide) (sN := 0) rfl (by decide)
  obtain ⟨rfl, Nq101, P101_0⟩ := hQ101
  have N101 := Fr.app N0 Nq101
  obtain ⟨T102, X102, e102, st102⟩ := getF X101 hx hZ hown (host := "") (Or.inl (own_w hw 186 rfl)) Via.refl P101_0 F_cursor_r0 (g := (mkF m 5 #[oR r0, oU, oU] [(.ref r0)])) rfl rfl (hb hby d28_5)
  obtain ⟨T103, X103, e103, st103⟩ := getF X102 hx hZ hown (host := "") (Or.inl (own_w hw 169 rfl)) Via.refl e102 F_this_0_r0 (g := (mkF m 11 #[oR r0, oI cc, oU] [(.ref r0), (.int cc)])) rfl rfl (hb hby d28_11)
  obtain ⟨T104, X104, e104, st104⟩ := getF X103 hx hZ hown (Or.inr (own_w hw 188 rfl)) Via.refl e103 F_size_la (g := (mkF m 14 #[oR r0, oI cc, oU] [(.ref la), (.int cc)])) rfl rfl (hb hby d28_14)
  obtain ⟨T105, X105, e105, st105⟩ := getF X104 hx hZ hown (host := "") (Or.inl (own_w hw 169 rfl)) Via.refl e104 F_this_0_r0 (g := (mkF m 29 #[oR r0, oI cc, oU] [(.ref r0)])) rfl rfl (hb hby d28_29)
  obtain ⟨T106, X106, e106, st106⟩ := getF X105 hx hZ hown (host := "") (Or.inl (own_w hw 202 rfl)) Via.refl e105 F_elementData_la (g := (mkF m 32 #[oR r0, oI cc, oU] [(.ref la)])) rfl rfl (hb hby d28_32)
  obtain ⟨cl107, Ar107, qk107, Sz107, Nz107, Hh107, Gg107⟩ := id V_el
  obtain ⟨T108, h108, X108, e108, W108, st108⟩ := putF X106 hx hZ hown (host := "") (Or.inl (own_w hw 186 rfl)) Via.refl e106 F_cursor_r0 E_r0 (Or.inl (own_w hw 187 rfl)) (own_w hw 163 rfl) (ty := .int) (by decide) rfl rfl (g := (mkF m 54 #[oR r0, oI cc, oR el] [(.int (cc + (1 : Int32))), (.ref r0)])) rfl rfl (hb hby d28_54)
  have Fw108 := F_cursor_r0.same W108
  have N108 := Fr.snoc X108 N101 g_r0
  have ZZ109 : n0 ≤ h108.size := Nat.le_trans Z0 (Nat.le_of_eq W108.size.symm)
  have KK110 : Keep h0 h108 [r0] := (Keep.refl h0 [r0]).wr W108 (Or.inl (List.mem_of_getElem? (i := 0) rfl))
  have Fc111 := (F_lastRet_r0.other W108 (Or.inr (Ne.symm (sn7 hw))))
  obtain ⟨T112, h112, X112, e112, W112, st112⟩ := putF X108 hx hZ hown (host := "") (Or.inl (own_w hw 172 rfl)) Via.refl e108 Fc111 (E_r0.wr W108) (Or.inl (own_w hw 173 rfl)) (own_w hw 163 rfl) (ty := .int) (by decide) rfl rfl (g := (mkF m 61 #[oR r0, oI cc, oR el] [(.int cc), (.ref r0), (.int cc), (.ref el)])) rfl rfl (hb hby d28_61)
  have Fw112 := Fc111.same W112
  have N112 := Fr.snoc X112 N108 g_r0
  have ZZ113 : n0 ≤ h112.size := Nat.le_trans ZZ109 (Nat.le_of_eq W112.size.symm)
  have KK114 : Keep h0 h112 [r0] := KK110.wr W112 (Or.inl (List.mem_of_getElem? (i := 0) rfl))
  have Fc115 := (E_el.keep KK114)
  have nq116 : el ≠ r0 := (ne_exa Fc115 ((E_r0.wr W108).wr W112) (by decide))
  have Fc117 := (V_el.keep KK114 (ninS nq116 nin0))
  obtain ⟨cl118, Ar118, qk118, Sz118, Nz118, Hh118, Gg118⟩ := id Fc117
  have hin119 : ¬ (cc < 0 ∨ cl118.slots.size ≤ (cc).toNatClampNeg) := inb_of Sz118 hin
  have hat119 : cl118.slots[(cc).toNatClampNeg]? = some (.ref x) := Has.at Hh118 hin119 hg
  obtain ⟨fs, hr, hrun, hended, hW, hsame⟩ := X112.leave (v := some (.ref x)) (fun h => by rw [Bd.returns] at h; cases h)
  refine ⟨_, _, pre0 _ ?_, hrun, hended, _, _, rfl, ?_, ⟨_, rfl⟩, hW, hsame.mono (by decide) (by decide)⟩
  · show own_S p e below s₁ m 0 #[oR r0, oU, oU] [] _
    refine XS.aloadN X0.here hx rfl (hb hby d28_0) rfl rfl ?_
    show own_S p e below s₁ m 1 _ [(.ref r0)] _
    refine st101.trans ?_
    show own_S p e below T101 m 4 _ [] _
    refine XS.aloadN X101.here hx rfl (hb hby d28_4) rfl rfl ?_
    show own_S p e below T101 m 5 _ [(.ref r0)] _
    refine st102 _ ?_
    show own_S p e below T102 m 8 _ [(.int cc)] _
    refine XS.istoreN X102.here hx rfl (hb hby d28_8) rfl (l' := #[oR r0, oI cc, oU]) rfl ?_
    refine XS.iloadN X102.here hx rfl (hb hby d28_9) rfl ?_
    refine XS.aloadN X102.here hx rfl (hb hby d28_10) rfl rfl ?_
    show own_S p e below T102 m 11 _ [(.ref r0), (.int cc)] _
    refine st103 _ ?_
    show own_S p e below T103 m 14 _ [(.ref la), (.int cc)] _
    refine st104 _ ?_
    show own_S p e below T104 m 17 _ [(.int n), (.int cc)] _
    refine XS.icmpYes X104.here hx rfl (pc0 := 17) (pc' := 28) rfl (hb hby d28_17) rfl (tlt (h1 : cc < n)).1 (by decide) (by decide) ?_
    refine XS.aloadN X104.here hx rfl (hb hby d28_28) rfl rfl ?_
    show own_S p e below T104 m 29 _ [(.ref r0)] _
    refine st105 _ ?_
    show own_S p e below T105 m 32 #[oR r0, oI cc, oU] [(.ref la)] _
    refine st106 _ ?_
    show own_S p e below T106 m 35 _ [(.ref el)] _
    refine XS.astoreN X106.here hx rfl (hb hby d28_35) rfl rfl (l' := #[oR r0, oI cc, oR el]) rfl ?_
    refine XS.iloadN X106.here hx rfl (hb hby d28_36) rfl ?_
    refine XS.aloadN X106.here hx rfl (hb hby d28_37) rfl rfl ?_
    show own_S p e below T106 m 38 _ [(.ref el), (.int cc)] _
    refine X106.arraylength hx (by rw [e106]; exact Ar107.1) (State.isArrayOf_alike hZ.alike Ar107.2.1) (g := (mkF m 38 #[oR r0, oI cc, oR el] [(.ref el), (.int cc)])) rfl rfl (hb hby d28_38) _ ?_
    rw [len_of Sz107 Nz107]
    show own_S p e below T106 m 39 _ [(.int cap), (.int cc)] _
    refine XS.icmpYes X106.here hx rfl (pc0 := 39) (pc' := 50) rfl (hb hby d28_39) rfl (tlt (h2 : cc < cap)).1 (by decide) (by decide) ?_
    refine XS.aloadN X106.here hx rfl (hb hby d28_50) rfl rfl ?_
    refine XS.iloadN X106.here hx rfl (hb hby d28_51) rfl ?_
    refine XS.iconst X106.here hx rfl (hb hby d28_52) ?_
    show own_S p e below T106 m 53 #[oR r0, oI cc, oR el] [(.int 1), (.int cc), (.ref r0)] _
    refine XS.iadd X106.here hx rfl (hb hby d28_53) rfl ?_
    show own_S p e below T106 m 54 _ [(.int (cc + (1 : Int32))), (.ref r0)] _
    refine st108 _ ?_
    show own_S p e below T108 m 57 _ [] _
    refine XS.aloadN X108.here hx rfl (hb hby d28_57) rfl rfl ?_
    refine XS.aloadN X108.here hx rfl (hb hby d28_58) rfl rfl ?_
    refine XS.iloadN X108.here hx rfl (hb hby d28_59) rfl ?_
    show own_S p e below T108 m 60 _ [(.int cc), (.ref r0), (.ref el)] _
    refine XS.dupX1 X108.here hx rfl (hb hby d28_60) rfl rfl rfl ?_
    show own_S p e below T108 m 61 _ [(.int cc), (.ref r0), (.int cc), (.ref el)] _
    refine st112 _ ?_
    show own_S p e below T112 m 64 #[oR r0, oI cc, oR el] [(.int cc), (.ref el)] _
    refine X112.aaload hx (j := cc) (v := (.ref x)) (by rw [e112]; exact Ar118.1) (State.isArrayOf_alike hZ.alike Ar118.2.1) rfl Ar118.2.2 hin119 hat119 (g := (mkF m 64 #[oR r0, oI cc, oR el] [(.int cc), (.ref el)])) rfl rfl (hb hby d28_64) _ ?_
    show own_S p e below T112 m 65 _ [(.ref x)] _
    exact retOut X112 hx Bd.returns rfl (Or.inr (Or.inr (Or.inr (Or.inr ⟨rfl, rfl, rfl⟩)))) (hb hby d28_65) hr
  · show Qm28 Z r0 la mc cc n wl el x kel cap vs h0 n0 _ T112.heap _
    rw [e112]
    exact ⟨rfl, N112, KK114, (Fw108.other W112 (Or.inr (sn7 hw))), Fw112, ((F_expectedModCount_r0.other W108 (Or.inr (Ne.symm (sn8 hw)))).other W112 (Or.inr (sn5 hw))), ((F_this_0_r0.other W108 (Or.inr (Ne.symm (sn6 hw)))).other W112 (Or.inr (Ne.symm (sn3 hw))))⟩
theorem d30_0 : decode jdk_117_method_19_code 0 = .ok (.aload_n 0, 1) := by decide +kernel
theorem d30_1 : decode jdk_117_method_19_code 1 = .ok (.getfield 118, 3) := by decide +kernel
theorem d30_4 : decode jdk_117_method_19_code 4 = .ok (.dreturn, 1) := by decide +kernel
theorem efm30 (m : MethodId) (r0 : Addr) : entryFrame m #[(.ref r0)] 1 = mkF m 0 #[oR r0] [] := by first | (simp [entryFrame, mkF, argsToLocals, Value.category]; done) | rfl
def Qm30 (Z : State) (r0 : Addr) (d : UInt64) (h0 : Heap) (n0 : Nat) (v : Option Value) (h : Heap) (L : List Loc) : Prop := v = some (.double d) ∧ Fr n0 L ∧ (h = h0)
set_option maxRecDepth 65536 in
set_option maxHeartbeats 40000000 in
theorem rmm30 (l : Launch) (Z : State) (a0 : Array Value) (hw : own_HW Z a0) (ws : List Jvm.Cond) (r0 : Addr) (d : UInt64) (h0 : Heap) (n0 : Nat) (Z0 : n0 ≤ h0.size) (F_value_r0 : Fld Z h0 r0 kDB "value" "D" (.double d)) :
    MetFree l (⟨kDB, "doubleValue", "()D"⟩ : MethodName) (head1 (Jvm.Cond.code (⟨kDB, "doubleValue", "()D"⟩ : MethodName) jdk_117_method_19_code 1 (some .double) :: ws) ({ frames := 0, cells := 0, slots := 0, locals := 0 } : Room)) (fun a U => a = #[(.ref r0)] ∧ Z.Warmed39 U.vm ∧ U.heap = h0) (fun _ _ _ _ _ => True) (fun _ U o U' => ∃ v L, o = .returned v ∧ Qm30 Z r0 d h0 n0 v U'.heap L ∧ FrameEnd U o U' L ({ frames := 0, cells := 0, slots := 0, locals := 0 } : Room).cells ({ frames := 0, cells := 0, slots := 0, locals := 0 } : Room).slots) := by
  refine MetFree.of_bodySF (plainFor_of_name pn4) hisR ?_
  intro p e s m args below meth c s₁ Bd hml0 hP hK
  obtain ⟨rfl, hZ, hh⟩ := hP
  have hx := Bd.exec
  have hby := Bd.bytes
  have hml : c.maxLocals = 1 := hml0
  have hown : s.vm.findClass kDB = some m.cls := findClass_of_methodNamed Bd.named
  have hnm := (name_of_methodNamed Bd.named Bd.method).1
  have X0 : Stand p l e ({ frames := 0, cells := 0, slots := 0, locals := 0 } : Room) s m #[(.ref r0)] below meth c s₁ [] 0 0 := Stand.of_body Bd
  have e0 : s₁.heap = h0 := by rw [← hh, Bd.state]; rfl
  have N0 := Fr.nil n0
  have pre0 : ∀ t, Steps p.tables e below (s₁.setTop (mkF m 0 #[oR r0] [])) t → Steps p.tables e below (s₁.setTop (entryFrame m #[(.ref r0)] 1)) t := fun t k => castTop (efm30 m r0) k
  obtain ⟨T101, X101, e101, st101⟩ := getF X0 hx hZ hown (host := "") (Or.inl (own_w hw 50 rfl)) Via.refl e0 F_value_r0 (g := (mkF m 1 #[oR r0] [(.ref r0)])) rfl rfl (hb hby d30_1)
  obtain ⟨fs, hr, hrun, hended, hW, hsame⟩ := X101.leave (v := some (.double d)) (fun h => by rw [Bd.returns] at h; cases h)
  refine ⟨_, _, pre0 _ ?_, hrun, hended, _, _, rfl, ?_, ⟨_, rfl⟩, hW, hsame.mono (by decide) (by decide)⟩
  · show own_S p e below s₁ m 0 #[oR r0] [] _
    refine XS.aloadN X0.here hx rfl (hb hby d30_0) rfl rfl ?_
    show own_S p e below s₁ m 1 _ [(.ref r0)] _
    refine st101 _ ?_
    show own_S p e below T101 m 4 _ [(.double d)] _
    exact retOut X101 hx Bd.returns rfl (Or.inr (Or.inr (Or.inl ⟨rfl, rfl, _, rfl⟩))) (hb hby d30_4) hr
  · show Qm30 Z r0 d h0 n0 _ T101.heap _
    rw [e101]
    exact ⟨rfl, N0, rfl⟩
theorem pd9 : parseMethodDescriptor "(D)D" = some ⟨[.double], some .double⟩ := by decide +kernel
theorem d31_0 : decode k31 0 = .ok (.dload_n 0, 1) := by decide +kernel
theorem d31_1 : decode k31 1 = .ok (.invokestatic 38, 3) := by decide +kernel
theorem d31_4 : decode k31 4 = .ok (.ldc2_w 111, 3) := by decide +kernel
theorem d31_7 : decode k31 7 = .ok (.dcmp .g, 1) := by decide +kernel
theorem d31_8 : decode k31 8 = .ok (.ifCond .gt 7, 3) := by decide +kernel
theorem d31_11 : decode k31 11 = .ok (.iconst 1, 1) := by decide +kernel
theorem d31_12 : decode k31 12 = .ok (.goto 4, 3) := by decide +kernel
theorem d31_16 : decode k31 16 = .ok (.ireturn, 1) := by decide +kernel
theorem efm31 (m : MethodId) (d0 : UInt64) : entryFrame m #[(.double d0)] 2 = mkF m 0 #[oD d0, oV] [] := by first | (simp [entryFrame, mkF, argsToLocals, Value.category]; done) | rfl
def Qm31 (Z : State) (d0 : UInt64) (h0 : Heap) (n0 : Nat) (v : Option Value) (h : Heap) (L : List Loc) : Prop := v = some (.int 1) ∧ Fr n0 L ∧ (h = h0)
set_option maxRecDepth 65536 in
set_option maxHeartbeats 40000000 in
theorem rmm31 (l : Launch) (Z : State) (a0 : Array Value) (hw : own_HW Z a0) (ws : List Jvm.Cond) (d0 : UInt64) (h0 : Heap) (n0 : Nat) (Z0 : n0 ≤ h0.size) (hnn : NoNaN64 d0) (hfi : ¬ (0 : Int32) < (cmpValue (FP.dcmp (d0 &&& 0x7fffffffffffffff) (9218868437227405311 : UInt64)) .g)) :
    MetFree l (⟨kDB, "isFinite", "(D)Z"⟩ : MethodName) (head1 (Jvm.Cond.code (⟨kDB, "isFinite", "(D)Z"⟩ : MethodName) jdk_117_method_8_code 2 (some .boolean) :: ws) ({ frames := 1, cells := 0, slots := 0, locals := 13 } : Room)) (fun a U => a = #[(.double d0)] ∧ Z.Warmed39 U.vm ∧ U.heap = h0) (fun _ _ _ _ _ => True) (fun _ U o U' => ∃ v L, o = .returned v ∧ Qm31 Z d0 h0 n0 v U'.heap L ∧ FrameEnd U o U' L ({ frames := 1, cells := 0, slots := 0, locals := 13 } : Room).cells ({ frames := 1, cells := 0, slots := 0, locals := 13 } : Room).slots) := by
  refine MetFree.of_bodySF (plainFor_of_name pn4) hisR ?_
  intro p e s m args below meth c s₁ Bd hml0 hP hK
  obtain ⟨rfl, hZ, hh⟩ := hP
  have hx := Bd.exec
  have hby := Bd.bytes
  have hml : c.maxLocals = 2 := hml0
  have hown : s.vm.findClass kDB = some m.cls := findClass_of_methodNamed Bd.named
  have hnm := (name_of_methodNamed Bd.named Bd.method).1
  have X0 : Stand p l e ({ frames := 1, cells := 0, slots := 0, locals := 13 } : Room) s m #[(.double d0)] below meth c s₁ [] 0 0 := Stand.of_body Bd
  have e0 : s₁.heap = h0 := by rw [← hh, Bd.state]; rfl
  have N0 := Fr.nil n0
  have pre0 : ∀ t, Steps p.tables e below (s₁.setTop (mkF m 0 #[oD d0, oV] [])) t → Steps p.tables e below (s₁.setTop (entryFrame m #[(.double d0)] 2)) t := fun t k => castTop (efm31 m d0) k
  obtain ⟨T101, X101, e101, st101⟩ := natS X0 hx hZ hown (own_w hw 212 rfl) (own_w hw 213 rfl) (own_w hw 82 rfl) (own_w hw 214 rfl) (by decide) e0 (W := 0) (fun q => Jvm.Free.Fl.Abs.absD_pays d0 q (by decide) (by decide)) (g := (mkF m 1 #[oD d0, oV] [(.double d0)])) rfl (by rw [hml]; rfl) (argsL := [(.double d0)]) (rest := []) (lenOf pd9 rfl) rfl (by show 2 * 0 + _ ≤ _; exact Nat.le_of_eq rfl) (hb hby d31_1) (by decide) (by decide) ⟨rfl, hnn⟩ rfl
  obtain ⟨fs, hr, hrun, hended, hW, hsame⟩ := X101.leave (v := some (.int 1)) (fun h => by rw [Bd.returns] at h; cases h)
  refine ⟨_, _, pre0 _ ?_, hrun, hended, _, _, rfl, ?_, ⟨_, rfl⟩, hW, hsame.mono (by decide) (by decide)⟩
  · show own_S p e below s₁ m 0 #[oD d0, oV] [] _
    refine XS.dloadN X0.here hx rfl (hb hby d31_0) rfl ?_
    show own_S p e below s₁ m 1 _ [(.double d0)] _
    refine st101 _ ?_
    show own_S p e below T101 m 4 _ [(.double (d0 &&& 0x7fffffffffffffff))] _
    refine X101.ldc2DoubleC hx hown (mvT hZ (own_w hw 215 rfl)) (g := (mkF m 4 #[oD d0, oV] [(.double (d0 &&& 0x7fffffffffffffff))])) rfl (hb hby d31_4) _ ?_
    show own_S p e below T101 m 7 _ [(.double 9218868437227405311), (.double (d0 &&& 0x7fffffffffffffff))] _
    refine XS.dcmpS X101.here hx rfl (v := (cmpValue (FP.dcmp (d0 &&& 0x7fffffffffffffff) (9218868437227405311 : UInt64)) .g)) (hb hby d31_7) rfl rfl ?_
    show own_S p e below T101 m 8 _ [(.int (cmpValue (FP.dcmp (d0 &&& 0x7fffffffffffffff) (9218868437227405311 : UInt64)) .g))] _
    refine XS.ifNo X101.here hx rfl (hb hby d31_8) rfl ((if0 _ _).trans (flt (hfi : ¬ ((0 : Int32) < (cmpValue (FP.dcmp (d0 &&& 0x7fffffffffffffff) (9218868437227405311 : UInt64)) .g)))).2.2.1) ?_
    refine XS.iconst X101.here hx rfl (hb hby d31_11) ?_
    refine XS.goto X101.here hx rfl (pc0 := 12) (pc' := 16) rfl (hb hby d31_12) (by decide) (by decide) ?_
    show own_S p e below T101 m 16 #[oD d0, oV] [(.int 1)] _
    exact retN X101 hx (t := .boolean) Bd.returns (by simp) (hb hby d31_16) hr
  · show Qm31 Z d0 h0 n0 _ T101.heap _
    rw [e101]
    exact ⟨rfl, N0, rfl⟩
theorem d41_0 : decode k41 0 = .ok (.aload_n 0, 1) := by decide +kernel
theorem d41_1 : decode k41 1 = .ok (.ifnonnull 11, 3) := by decide +kernel
theorem d41_12 : decode k41 12 = .ok (.aload_n 0, 1) := by decide +kernel
theorem d41_13 : decode k41 13 = .ok (.areturn, 1) := by decide +kernel
theorem efm41 (m : MethodId) (r0 : Addr) : entryFrame m #[(.ref r0)] 1 = mkF m 0 #[oR r0] [] := by first | (simp [entryFrame, mkF, argsToLocals, Value.category]; done) | rfl
def Qm41 (Z : State) (r0 : Addr) (h0 : Heap) (n0 : Nat) (v : Option Value) (h : Heap) (L : List Loc) : Prop := v = some (.ref r0) ∧ Fr n0 L ∧ (h = h0)
set_option maxRecDepth 65536 in
set_option maxHeartbeats 40000000 in
theorem rmm41 (l : Launch) (Z : State) (a0 : Array Value) (hw : own_HW Z a0) (ws : List Jvm.Cond) (r0 : Addr) (h0 : Heap) (n0 : Nat) (Z0 : n0 ≤ h0.size)  :
    MetFree l (⟨"java/util/Objects", "requireNonNull", "(Ljava/lang/Object;)Ljava/lang/Object;"⟩ : MethodName) (head1 (Jvm.Cond.code (⟨"java/util/Objects", "requireNonNull", "(Ljava/lang/Object;)Ljava/lang/Object;"⟩ : MethodName) jdk_31_method_10_code 1 (some (.object kOB)) :: ws) ({ frames := 0, cells := 0, slots := 0, locals := 0 } : Room)) (fun a U => a = #[(.ref r0)] ∧ Z.Warmed39 U.vm ∧ U.heap = h0) (fun _ _ _ _ _ => True) (fun _ U o U' => ∃ v L, o = .returned v ∧ Qm41 Z r0 h0 n0 v U'.heap L ∧ FrameEnd U o U' L ({ frames := 0, cells := 0, slots := 0, locals := 0 } : Room).cells ({ frames := 0, cells := 0, slots := 0, locals := 0 } : Room).slots) := by
  refine MetFree.of_bodySF (plainFor_of_name pn6) hisR ?_
  intro p e s m args below meth c s₁ Bd hml0 hP hK
  obtain ⟨rfl, hZ, hh⟩ := hP
  have hx := Bd.exec
  have hby := Bd.bytes
  have hml : c.maxLocals = 1 := hml0
  have hown : s.vm.findClass "java/util/Objects" = some m.cls := findClass_of_methodNamed Bd.named
  have hnm := (name_of_methodNamed Bd.named Bd.method).1
  have X0 : Stand p l e ({ frames := 0, cells := 0, slots := 0, locals := 0 } : Room) s m #[(.ref r0)] below meth c s₁ [] 0 0 := Stand.of_body Bd
  have e0 : s₁.heap = h0 := by rw [← hh, Bd.state]; rfl
  have N0 := Fr.nil n0
  have pre0 : ∀ t, Steps p.tables e below (s₁.setTop (mkF m 0 #[oR r0] [])) t → Steps p.tables e below (s₁.setTop (entryFrame m #[(.ref r0)] 1)) t := fun t k => castTop (efm41 m r0) k
  obtain ⟨fs, hr, hrun, hended, hW, hsame⟩ := X0.leave (v := some (.ref r0)) (fun h => by rw [Bd.returns] at h; cases h)
  refine ⟨_, _, pre0 _ ?_, hrun, hended, _, _, rfl, ?_, ⟨_, rfl⟩, hW, hsame.mono (by decide) (by decide)⟩
  · show own_S p e below s₁ m 0 #[oR r0] [] _
    refine XS.aloadN X0.here hx rfl (hb hby d41_0) rfl rfl ?_
    show own_S p e below s₁ m 1 _ [(.ref r0)] _
    refine XS.ifnonnullYes X0.here hx rfl (pc0 := 1) (pc' := 12) rfl (hb hby d41_1) rfl (by decide) (by decide) ?_
    show own_S p e below s₁ m 12 _ [] _
    refine XS.aloadN X0.here hx rfl (hb hby d41_12) rfl rfl ?_
    show own_S p e below s₁ m 13 _ [(.ref r0)] _
    exact retOut X0 hx Bd.returns rfl (Or.inr (Or.inr (Or.inr (Or.inr ⟨rfl, rfl, rfl⟩)))) (hb hby d41_13) hr
  · show Qm41 Z r0 h0 n0 _ s₁.heap _
    rw [e0]
    exact ⟨rfl, N0, rfl⟩
theorem d17_0 : decode k17 0 = .ok (.aload_n 0, 1) := by decide +kernel
theorem d17_1 : decode k17 1 = .ok (.ifnonnull 12, 3) := by decide +kernel
theorem d17_13 : decode k17 13 = .ok (.aload_n 0, 1) := by decide +kernel
theorem d17_14 : decode k17 14 = .ok (.areturn, 1) := by decide +kernel
theorem efm17 (m : MethodId) (r0 : Addr) (r1 : Addr) : entryFrame m #[(.ref r0), (.ref r1)] 2 = mkF m 0 #[oR r0, oR r1] [] := by first | (simp [entryFrame, mkF, argsToLocals, Value.category]; done) | rfl
def Qm17 (Z : State) (r0 : Addr) (r1 : Addr) (h0 : Heap) (n0 : Nat) (v : Option Value) (h : Heap) (L : List Loc) : Prop := v = some (.ref r0) ∧ Fr n0 L ∧ (h = h0)
set_option maxRecDepth 65536 in
set_option maxHeartbeats 40000000 in
theorem rmm17 (l : Launch) (Z : State) (a0 : Array Value) (hw : own_HW Z a0) (ws : List Jvm.Cond) (r0 : Addr) (r1 : Addr) (h0 : Heap) (n0 : Nat) (Z0 : n0 ≤ h0.size)  :
    MetFree l (⟨"java/util/Objects", "requireNonNull", "(Ljava/lang/Object;Ljava/lang/String;)Ljava/lang/Object;"⟩ : MethodName) (head1 (Jvm.Cond.code (⟨"java/util/Objects", "requireNonNull", "(Ljava/lang/Object;Ljava/lang/String;)Ljava/lang/Object;"⟩ : MethodName) jdk_31_method_11_code 2 (some (.object kOB)) :: ws) ({ frames := 0, cells := 0, slots := 0, locals := 0 } : Room)) (fun a U => a = #[(.ref r0), (.ref r1)] ∧ Z.Warmed39 U.vm ∧ U.heap = h0) (fun _ _ _ _ _ => True) (fun _ U o U' => ∃ v L, o = .returned v ∧ Qm17 Z r0 r1 h0 n0 v U'.heap L ∧ FrameEnd U o U' L ({ frames := 0, cells := 0, slots := 0, locals := 0 } : Room).cells ({ frames := 0, cells := 0, slots := 0, locals := 0 } : Room).slots) := by
  refine MetFree.of_bodySF (plainFor_of_name pn6) hisR ?_
  intro p e s m args below meth c s₁ Bd hml0 hP hK
  obtain ⟨rfl, hZ, hh⟩ := hP
  have hx := Bd.exec
  have hby := Bd.bytes
  have hml : c.maxLocals = 2 := hml0
  have hown : s.vm.findClass "java/util/Objects" = some m.cls := findClass_of_methodNamed Bd.named
  have hnm := (name_of_methodNamed Bd.named Bd.method).1
  have X0 : Stand p l e ({ frames := 0, cells := 0, slots := 0, locals := 0 } : Room) s m #[(.ref r0), (.ref r1)] below meth c s₁ [] 0 0 := Stand.of_body Bd
  have e0 : s₁.heap = h0 := by rw [← hh, Bd.state]; rfl
  have N0 := Fr.nil n0
  have pre0 : ∀ t, Steps p.tables e below (s₁.setTop (mkF m 0 #[oR r0, oR r1] [])) t → Steps p.tables e below (s₁.setTop (entryFrame m #[(.ref r0), (.ref r1)] 2)) t := fun t k => castTop (efm17 m r0 r1) k
  obtain ⟨fs, hr, hrun, hended, hW, hsame⟩ := X0.leave (v := some (.ref r0)) (fun h => by rw [Bd.returns] at h; cases h)
  refine ⟨_, _, pre0 _ ?_, hrun, hended, _, _, rfl, ?_, ⟨_, rfl⟩, hW, hsame.mono (by decide) (by decide)⟩
  · show own_S p e below s₁ m 0 #[oR r0, oR r1] [] _
    refine XS.aloadN X0.here hx rfl (hb hby d17_0) rfl rfl ?_
    show own_S p e below s₁ m 1 _ [(.ref r0)] _
    refine XS.ifnonnullYes X0.here hx rfl (pc0 := 1) (pc' := 13) rfl (hb hby d17_1) rfl (by decide) (by decide) ?_
    show own_S p e below s₁ m 13 _ [] _
    refine XS.aloadN X0.here hx rfl (hb hby d17_13) rfl rfl ?_
    show own_S p e below s₁ m 14 _ [(.ref r0)] _
    exact retOut X0 hx Bd.returns rfl (Or.inr (Or.inr (Or.inr (Or.inr ⟨rfl, rfl, rfl⟩)))) (hb hby d17_14) hr
  · show Qm17 Z r0 r1 h0 n0 _ s₁.heap _
    rw [e0]
    exact ⟨rfl, N0, rfl⟩
def own_Mi (Z : State) (C : String) (mr : Addr) : Prop := ∃ (c : ClassId) (k : Class), Z.vm.findClass C = some c ∧ Z.vm.classes[c]? = some k ∧ k.mirror = some mr
section OwnMir
variable {p : Program} {l : Launch} {e : Env} {R : Room} {s : State} {m : MethodId} {args : Array Value} {below : List Frame} {meth : Method} {c : Code} {T : State} {locs : List Loc} {cells slots : Nat} {Z : State} {h : Heap} {a : Addr}
theorem own_miS {C : String} {mr : Addr} (M : own_Mi Z C mr) (hZ : Z.Warmed39 s.vm) : ∃ (c : ClassId) (k : Class), s.vm.findClass C = some c ∧ s.vm.classes[c]? = some k ∧ k.mirror = some mr := by
  obtain ⟨cc, kc, m1, m2, m3⟩ := M
  obtain ⟨k', q, ek⟩ := hZ.alike.2.2 _ _ m2
  exact ⟨cc, k', by rw [hZ.alike.findClass]; exact m1, q, by rw [ek]; exact m3⟩
theorem own_gcls (X : Stand p l e R s m args below meth c T locs cells slots) (hx : p.tables.exec = Jvm.exec) (hZ : Z.Warmed39 s.vm) {a0 : Array Value} {own C : String} {index : Nat} (hown : s.vm.findClass own = some m.cls)
    (w1 : (Jvm.Cond.methodLink own index ⟨kOB, "getClass", "()Ljava/lang/Class;"⟩).before a0 Z = true) (w2 : (Jvm.Cond.declares ⟨kOB, "getClass", "()Ljava/lang/Class;"⟩).before a0 Z = true) (w3 : (Jvm.Cond.noSuperclass kOB).before a0 Z = true) (w4 : (Jvm.Cond.selects C ⟨kOB, "getClass", "()Ljava/lang/Class;"⟩ ⟨kOB, "getClass", "()Ljava/lang/Class;"⟩).before a0 Z = true)
    (w5 : (Jvm.Cond.instanceMethod ⟨kOB, "getClass", "()Ljava/lang/Class;"⟩).before a0 Z = true) (w6 : (Jvm.Cond.native ⟨kOB, "getClass", "()Ljava/lang/Class;"⟩).before a0 Z = true) (eT : T.heap = h) (E : Exa Z h a C) {mr : Addr} (M : own_Mi Z C mr)
    {g : JFrame} (hg : g.method = m) (hsize : g.locals.size = c.maxLocals) {rest : List Value} (hs : g.stack = .ref a :: rest) (hd : decode c.code g.pc = .ok (.invokevirtual index, 3)) (hf : 1 ≤ R.frames) {W : Nat} (hW : 2 * g.monitorRoom + (rest.map fun v => v.category).sum ≤ W) (hl : W + (nativeFrameWords kOB "getClass" 1 + 11) ≤ R.locals) :
    ∃ T', Stand p l e R s m args below meth c T' locs cells slots ∧ T'.heap = h ∧ ∀ target, Steps p.tables e below (T'.setTop { g with pc := g.pc + 3, stack := .ref mr :: rest }) target → Steps p.tables e below (T.setTop g) target := by
  obtain ⟨cB, _, i1, _, i3⟩ := isOf hZ eT E
  obtain ⟨cc, kc, m1, m2, m3⟩ := own_miS M hZ
  cases i1.symm.trans m1
  obtain ⟨vm', X', st⟩ := X.getClassOf hx hown (mvT hZ w1) (mvT hZ w2) (nf_top (args := #[]) (mvT hZ w3)) (mvT hZ w4) (mvT hZ w5) (mvT hZ w6) m1 i3 m2 m3 hg hsize hs hd hf (Nat.le_trans (Nat.add_le_add_right hW _) hl)
  exact ⟨_, X', eT, st⟩
theorem own_ldcM (X : Stand p l e R s m args below meth c T locs cells slots) (hx : p.tables.exec = Jvm.exec) (hZ : Z.Warmed39 s.vm) {a0 : Array Value} {own C : String} {index : Nat} (hown : s.vm.findClass own = some m.cls) (w : (Jvm.Cond.classLink own index C).before a0 Z = true) (eT : T.heap = h) {mr : Addr} (M : own_Mi Z C mr)
    {g : JFrame} (hg : g.method = m) (hd : decode c.code g.pc = .ok (.ldc index, 2)) : ∃ T', Stand p l e R s m args below meth c T' locs cells slots ∧ T'.heap = h ∧ ∀ target, Steps p.tables e below (T'.setTop { g with pc := g.pc + 2, stack := .ref mr :: g.stack }) target → Steps p.tables e below (T.setTop g) target := by
  obtain ⟨cc, kc, m1, m2, m3⟩ := own_miS M hZ
  obtain ⟨vm', X', st⟩ := X.ldcMirror hx hown (a := mr) (mv hZ w) (by simp [Term.eval, m1, m2, m3]) hg hd
  exact ⟨_, X', eT, st⟩
end OwnMir
theorem own_NSroot {Z : State} {a0 : Array Value} {O K : String} {n : Nat} (w : (Jvm.Cond.noSuperclass O).before a0 Z = true) (wk : (Jvm.Cond.instantiable K n).before a0 Z = true) (hn : O ≠ K) : NS Z O K := by
  obtain ⟨c, k, h1, h2, h3, -, -⟩ := Cond.noSuperclass_spec w
  obtain ⟨t, k', g1, -⟩ := Cond.instantiable_spec wk
  have ne := ids_ne h1 g1 hn
  refine ⟨c, t, h1, g1, fun fuel => ?_⟩
  cases fuel with
  | zero => rfl
  | succ f => simp [Vm.isSubclassAux, ne, h2, h3]
theorem own_NSno {Z : State} {a0 : Array Value} {C S K : String} {n : Nat} (w : (Jvm.Cond.superclass C S).before a0 Z = true) (wk : (Jvm.Cond.instantiable K n).before a0 Z = true) (q : NS Z C K) (hn : C ≠ K) : ∃ c t, Z.vm.findClass C = some c ∧ Z.vm.findClass K = some t ∧ Z.vm.assignable c t = false := by
  obtain ⟨c, t, h0, g0, n3⟩ := q
  obtain ⟨p, k, kp, h1, h2, h3, h4, h5, -, h7⟩ := Cond.superclass_spec h0 w
  obtain ⟨t', k', g1, g2, g5, g6, -⟩ := Cond.instantiable_spec wk
  cases g0.symm.trans g1
  have ne := ids_ne h0 g0 hn
  have g7 : k'.isInterface = false := by simp only [Bool.or_eq_false_iff] at g6; exact g6.1
  refine ⟨c, t, h0, g0, ?_⟩
  show Z.vm.assignableAux (255 + 1) c t = false
  simp [Vm.assignableAux, ne, h2, g2, h5, g5, g7, Vm.isSubclass, n3]
theorem own_no12 {Z : State} {a0 : Array Value} (hw : own_HW Z a0) : ∃ c t, Z.vm.findClass kAL = some c ∧ Z.vm.findClass kL12 = some t ∧ Z.vm.assignable c t = false := (own_NSno (own_w hw 225 rfl) (own_w hw 302 rfl) (NS.step (own_w hw 225 rfl) (NS.step (own_w hw 226 rfl) (NS.step (own_w hw 227 rfl) (own_NSroot (own_w hw 228 rfl) (own_w hw 302 rfl) (by decide)) (by decide)) (by decide)) (by decide)) (by decide))
theorem own_noN {Z : State} {a0 : Array Value} (hw : own_HW Z a0) : ∃ c t, Z.vm.findClass kAL = some c ∧ Z.vm.findClass kLN = some t ∧ Z.vm.assignable c t = false := (own_NSno (own_w hw 225 rfl) (own_w hw 275 rfl) (NS.step (own_w hw 225 rfl) (NS.step (own_w hw 226 rfl) (NS.step (own_w hw 227 rfl) (own_NSroot (own_w hw 228 rfl) (own_w hw 275 rfl) (by decide)) (by decide)) (by decide)) (by decide)) (by decide))
theorem d44_0 : decode jdk_47_method_1_code 0 = .ok (.aload_n 0, 1) := by decide +kernel
theorem d44_1 : decode jdk_47_method_1_code 1 = .ok (.invokespecial 1, 3) := by decide +kernel
theorem d44_4 : decode jdk_47_method_1_code 4 = .ok (.return_, 1) := by decide +kernel
theorem pn8 : plainName "java/util/ImmutableCollections$AbstractImmutableCollection" = true := by first | (simp [plainName, overriddenIn]; done) | decide +kernel
theorem efm44 (m : MethodId) (r0 : Addr) : entryFrame m #[(.ref r0)] 1 = mkF m 0 #[oR r0] [] := by first | (simp [entryFrame, mkF, argsToLocals, Value.category]; done) | rfl
def Qm44 (Z : State) (r0 : Addr) (h0 : Heap) (n0 : Nat) (v : Option Value) (h : Heap) (L : List Loc) : Prop := v = none ∧ Fr n0 L ∧ (h = h0)
set_option maxRecDepth 65536 in
set_option maxHeartbeats 40000000 in
theorem rmm44 (l : Launch) (Z : State) (a0 : Array Value) (hw : own_HW Z a0) (ws : List Jvm.Cond) (r0 : Addr) (h0 : Heap) (n0 : Nat) (Z0 : n0 ≤ h0.size)  :
    MetFree l (⟨"java/util/ImmutableCollections$AbstractImmutableCollection", "<init>", "()V"⟩ : MethodName) (head1 (Jvm.Cond.code (⟨"java/util/ImmutableCollections$AbstractImmutableCollection", "<init>", "()V"⟩ : MethodName) jdk_47_method_1_code 1 none :: ws) ({ frames := 2, cells := 0, slots := 0, locals := 24 } : Room)) (fun a U => a = #[(.ref r0)] ∧ Z.Warmed39 U.vm ∧ U.heap = h0) (fun _ _ _ _ _ => True) (fun _ U o U' => ∃ v L, o = .returned v ∧ Qm44 Z r0 h0 n0 v U'.heap L ∧ FrameEnd U o U' L ({ frames := 2, cells := 0, slots := 0, locals := 24 } : Room).cells ({ frames := 2, cells := 0, slots := 0, locals := 24 } : Room).slots) := by
  refine MetFree.of_bodySF (plainFor_of_name pn8) hisR ?_
  intro p e s m args below meth c s₁ Bd hml0 hP hK
  obtain ⟨rfl, hZ, hh⟩ := hP
  have hx := Bd.exec
  have hby := Bd.bytes
  have hml : c.maxLocals = 1 := hml0
  have hown : s.vm.findClass "java/util/ImmutableCollections$AbstractImmutableCollection" = some m.cls := findClass_of_methodNamed Bd.named
  have hnm := (name_of_methodNamed Bd.named Bd.method).1
  have X0 : Stand p l e ({ frames := 2, cells := 0, slots := 0, locals := 24 } : Room) s m #[(.ref r0)] below meth c s₁ [] 0 0 := Stand.of_body Bd
  have e0 : s₁.heap = h0 := by rw [← hh, Bd.state]; rfl
  have N0 := Fr.nil n0
  have pre0 : ∀ t, Steps p.tables e below (s₁.setTop (mkF m 0 #[oR r0] [])) t → Steps p.tables e below (s₁.setTop (entryFrame m #[(.ref r0)] 1)) t := fun t k => castTop (efm44 m r0) k
  obtain ⟨_, T101, L101, X101, hQ101, st101⟩ := own_cC X0 hx hZ hw hown (b := r0) (W := 0) (rmm3 l Z a0 hw [] r0 h0 n0 Z0 ) (by decide) (by decide) (by decide) rfl 293 rfl 13 rfl 17 rfl 16 rfl e0 (g := (mkF m 1 #[oR r0] [(.ref r0)])) rfl (by rw [hml]; rfl) (argsL := []) (rest := []) (lenOf pd0 rfl) rfl (Nat.le_of_eq rfl) (hb hby d44_1) rfl (cN := 0) rfl (by decide) (sN := 0) rfl (by decide)
  obtain ⟨rfl, Nq101, P101_0⟩ := hQ101
  have N101 := Fr.app N0 Nq101
  obtain ⟨fs, hr, hrun, hended, hW, hsame⟩ := X101.leave (v := none) (fun _ => rfl)
  refine ⟨_, _, pre0 _ ?_, hrun, hended, _, _, rfl, ?_, ⟨_, rfl⟩, hW, hsame.mono (by decide) (by decide)⟩
  · show own_S p e below s₁ m 0 #[oR r0] [] _
    refine XS.aloadN X0.here hx rfl (hb hby d44_0) rfl rfl ?_
    show own_S p e below s₁ m 1 _ [(.ref r0)] _
    refine st101.trans ?_
    show own_S p e below T101 m 4 _ [] _
    exact X101.returnOut hx Bd.returns (hb hby d44_4) hr
  · show Qm44 Z r0 h0 n0 _ T101.heap _
    rw [P101_0]
    exact ⟨rfl, N101, rfl⟩
theorem d43_0 : decode jdk_46_method_1_code 0 = .ok (.aload_n 0, 1) := by decide +kernel
theorem d43_1 : decode jdk_46_method_1_code 1 = .ok (.invokespecial 1, 3) := by decide +kernel
theorem d43_4 : decode jdk_46_method_1_code 4 = .ok (.return_, 1) := by decide +kernel
theorem pn9 : plainName "java/util/ImmutableCollections$AbstractImmutableList" = true := by first | (simp [plainName, overriddenIn]; done) | decide +kernel
theorem efm43 (m : MethodId) (r0 : Addr) : entryFrame m #[(.ref r0)] 1 = mkF m 0 #[oR r0] [] := by first | (simp [entryFrame, mkF, argsToLocals, Value.category]; done) | rfl
def Qm43 (Z : State) (r0 : Addr) (h0 : Heap) (n0 : Nat) (v : Option Value) (h : Heap) (L : List Loc) : Prop := v = none ∧ Fr n0 L ∧ (h = h0)
set_option maxRecDepth 65536 in
set_option maxHeartbeats 40000000 in
theorem rmm43 (l : Launch) (Z : State) (a0 : Array Value) (hw : own_HW Z a0) (ws : List Jvm.Cond) (r0 : Addr) (h0 : Heap) (n0 : Nat) (Z0 : n0 ≤ h0.size)  :
    MetFree l (⟨"java/util/ImmutableCollections$AbstractImmutableList", "<init>", "()V"⟩ : MethodName) (head1 (Jvm.Cond.code (⟨"java/util/ImmutableCollections$AbstractImmutableList", "<init>", "()V"⟩ : MethodName) jdk_46_method_1_code 1 none :: ws) ({ frames := 3, cells := 0, slots := 0, locals := 36 } : Room)) (fun a U => a = #[(.ref r0)] ∧ Z.Warmed39 U.vm ∧ U.heap = h0) (fun _ _ _ _ _ => True) (fun _ U o U' => ∃ v L, o = .returned v ∧ Qm43 Z r0 h0 n0 v U'.heap L ∧ FrameEnd U o U' L ({ frames := 3, cells := 0, slots := 0, locals := 36 } : Room).cells ({ frames := 3, cells := 0, slots := 0, locals := 36 } : Room).slots) := by
  refine MetFree.of_bodySF (plainFor_of_name pn9) hisR ?_
  intro p e s m args below meth c s₁ Bd hml0 hP hK
  obtain ⟨rfl, hZ, hh⟩ := hP
  have hx := Bd.exec
  have hby := Bd.bytes
  have hml : c.maxLocals = 1 := hml0
  have hown : s.vm.findClass "java/util/ImmutableCollections$AbstractImmutableList" = some m.cls := findClass_of_methodNamed Bd.named
  have hnm := (name_of_methodNamed Bd.named Bd.method).1
  have X0 : Stand p l e ({ frames := 3, cells := 0, slots := 0, locals := 36 } : Room) s m #[(.ref r0)] below meth c s₁ [] 0 0 := Stand.of_body Bd
  have e0 : s₁.heap = h0 := by rw [← hh, Bd.state]; rfl
  have N0 := Fr.nil n0
  have pre0 : ∀ t, Steps p.tables e below (s₁.setTop (mkF m 0 #[oR r0] [])) t → Steps p.tables e below (s₁.setTop (entryFrame m #[(.ref r0)] 1)) t := fun t k => castTop (efm43 m r0) k
  obtain ⟨_, T101, L101, X101, hQ101, st101⟩ := own_cC X0 hx hZ hw hown (b := r0) (W := 0) (rmm44 l Z a0 hw [] r0 h0 n0 Z0 ) (by decide) (by decide) (by decide) rfl 287 rfl 288 rfl 292 rfl 291 rfl e0 (g := (mkF m 1 #[oR r0] [(.ref r0)])) rfl (by rw [hml]; rfl) (argsL := []) (rest := []) (lenOf pd0 rfl) rfl (Nat.le_of_eq rfl) (hb hby d43_1) rfl (cN := 0) rfl (by decide) (sN := 0) rfl (by decide)
  obtain ⟨rfl, Nq101, P101_0⟩ := hQ101
  have N101 := Fr.app N0 Nq101
  obtain ⟨fs, hr, hrun, hended, hW, hsame⟩ := X101.leave (v := none) (fun _ => rfl)
  refine ⟨_, _, pre0 _ ?_, hrun, hended, _, _, rfl, ?_, ⟨_, rfl⟩, hW, hsame.mono (by decide) (by decide)⟩
  · show own_S p e below s₁ m 0 #[oR r0] [] _
    refine XS.aloadN X0.here hx rfl (hb hby d43_0) rfl rfl ?_
    show own_S p e below s₁ m 1 _ [(.ref r0)] _
    refine st101.trans ?_
    show own_S p e below T101 m 4 _ [] _
    exact X101.returnOut hx Bd.returns (hb hby d43_4) hr
  · show Qm43 Z r0 h0 n0 _ T101.heap _
    rw [P101_0]
    exact ⟨rfl, N101, rfl⟩
theorem pd10 : parseMethodDescriptor "(Ljava/lang/Object;)Ljava/lang/Object;" = some ⟨[(.object kOB)], some (.object kOB)⟩ := by decide +kernel
theorem sn9 {Z : State} {a0 : Array Value} (hw : own_HW Z a0) : Jvm.RoadKit.slotOf Z kL12 "e1" "Ljava/lang/Object;" ≠ Jvm.RoadKit.slotOf Z kL12 "e0" "Ljava/lang/Object;" := slot_ne (Or.inr (own_w hw 316 rfl)) (Or.inr (own_w hw 314 rfl)) (by decide) (t := (.object kOB)) (t' := (.object kOB)) (by decide) (by decide)
theorem d45_0 : decode k45 0 = .ok (.aload_n 0, 1) := by decide +kernel
theorem d45_1 : decode k45 1 = .ok (.invokespecial 1, 3) := by decide +kernel
theorem d45_4 : decode k45 4 = .ok (.aload_n 0, 1) := by decide +kernel
theorem d45_5 : decode k45 5 = .ok (.aload_n 1, 1) := by decide +kernel
theorem d45_6 : decode k45 6 = .ok (.invokestatic 7, 3) := by decide +kernel
theorem d45_9 : decode k45 9 = .ok (.putfield 13, 3) := by decide +kernel
theorem d45_12 : decode k45 12 = .ok (.aload_n 0, 1) := by decide +kernel
theorem d45_13 : decode k45 13 = .ok (.aload_n 2, 1) := by decide +kernel
theorem d45_14 : decode k45 14 = .ok (.invokestatic 7, 3) := by decide +kernel
theorem d45_17 : decode k45 17 = .ok (.putfield 24, 3) := by decide +kernel
theorem d45_20 : decode k45 20 = .ok (.return_, 1) := by decide +kernel
theorem pn10 : plainName kL12 = true := by first | (simp [plainName, overriddenIn]; done) | decide +kernel
theorem efm45 (m : MethodId) (r0 : Addr) (r1 : Addr) (r2 : Addr) : entryFrame m #[(.ref r0), (.ref r1), (.ref r2)] 3 = mkF m 0 #[oR r0, oR r1, oR r2] [] := by first | (simp [entryFrame, mkF, argsToLocals, Value.category]; done) | rfl
def Qm45 (Z : State) (r0 : Addr) (r1 : Addr) (r2 : Addr) (w0 : Value) (w1 : Value) (h0 : Heap) (n0 : Nat) (v : Option Value) (h : Heap) (L : List Loc) : Prop := v = none ∧ Fr n0 L ∧ (Keep h0 h [r0]) ∧ (Fld Z h r0 kL12 "e0" "Ljava/lang/Object;" (.ref r1)) ∧ (Fld Z h r0 kL12 "e1" "Ljava/lang/Object;" (.ref r2))
set_option maxRecDepth 65536 in
set_option maxHeartbeats 40000000 in
theorem rmm45 (l : Launch) (Z : State) (a0 : Array Value) (hw : own_HW Z a0) (ws : List Jvm.Cond) (r0 : Addr) (r1 : Addr) (r2 : Addr) (w0 : Value) (w1 : Value) (h0 : Heap) (n0 : Nat) (Z0 : n0 ≤ h0.size) (E_r0 : Exa Z h0 r0 kL12) (g_r0 : n0 ≤ r0) (F_e0_r0 : Fld Z h0 r0 kL12 "e0" "Ljava/lang/Object;" w0) (F_e1_r0 : Fld Z h0 r0 kL12 "e1" "Ljava/lang/Object;" w1) :
    MetFree l (⟨kL12, "<init>", "(Ljava/lang/Object;Ljava/lang/Object;)V"⟩ : MethodName) (head1 (Jvm.Cond.code (⟨kL12, "<init>", "(Ljava/lang/Object;Ljava/lang/Object;)V"⟩ : MethodName) jdk_44_method_2_code 3 none :: ws) ({ frames := 4, cells := 0, slots := 0, locals := 48 } : Room)) (fun a U => a = #[(.ref r0), (.ref r1), (.ref r2)] ∧ Z.Warmed39 U.vm ∧ U.heap = h0) (fun _ _ _ _ _ => True) (fun _ U o U' => ∃ v L, o = .returned v ∧ Qm45 Z r0 r1 r2 w0 w1 h0 n0 v U'.heap L ∧ FrameEnd U o U' L ({ frames := 4, cells := 0, slots := 0, locals := 48 } : Room).cells ({ frames := 4, cells := 0, slots := 0, locals := 48 } : Room).slots) := by
  refine MetFree.of_bodySF (plainFor_of_name pn10) hisR ?_
  intro p e s m args below meth c s₁ Bd hml0 hP hK
  obtain ⟨rfl, hZ, hh⟩ := hP
  have hx := Bd.exec
  have hby := Bd.bytes
  have hml : c.maxLocals = 3 := hml0
  have hown : s.vm.findClass kL12 = some m.cls := findClass_of_methodNamed Bd.named
  have hnm := (name_of_methodNamed Bd.named Bd.method).1
  have X0 : Stand p l e ({ frames := 4, cells := 0, slots := 0, locals := 48 } : Room) s m #[(.ref r0), (.ref r1), (.ref r2)] below meth c s₁ [] 0 0 := Stand.of_body Bd
  have e0 : s₁.heap = h0 := by rw [← hh, Bd.state]; rfl
  have N0 := Fr.nil n0
  have pre0 : ∀ t, Steps p.tables e below (s₁.setTop (mkF m 0 #[oR r0, oR r1, oR r2] [])) t → Steps p.tables e below (s₁.setTop (entryFrame m #[(.ref r0), (.ref r1), (.ref r2)] 3)) t := fun t k => castTop (efm45 m r0 r1 r2) k
  obtain ⟨_, T101, L101, X101, hQ101, st101⟩ := own_cC X0 hx hZ hw hown (b := r0) (W := 0) (rmm43 l Z a0 hw [] r0 h0 n0 Z0 ) (by decide) (by decide) (by decide) rfl 308 rfl 282 rfl 286 rfl 285 rfl e0 (g := (mkF m 1 #[oR r0, oR r1, oR r2] [(.ref r0)])) rfl (by rw [hml]; rfl) (argsL := []) (rest := []) (lenOf pd0 rfl) rfl (Nat.le_of_eq rfl) (hb hby d45_1) rfl (cN := 0) rfl (by decide) (sN := 0) rfl (by decide)
  obtain ⟨rfl, Nq101, P101_0⟩ := hQ101
  have N101 := Fr.app N0 Nq101
  obtain ⟨_, T102, L102, X102, hQ102, st102⟩ := own_cS X101 hx hZ hw hown (W := 1) (rmm41 l Z a0 hw [] r1 h0 n0 Z0 ) (by decide) (by decide) (by decide) 312 rfl 273 rfl 111 rfl 274 rfl P101_0 (g := (mkF m 6 #[oR r0, oR r1, oR r2] [(.ref r1), (.ref r0)])) rfl (by rw [hml]; rfl) (argsL := [(.ref r1)]) (rest := [(.ref r0)]) (lenOf pd10 rfl) rfl (Nat.le_of_eq rfl) (hb hby d45_6) rfl (cN := 0) rfl (by decide) (sN := 0) rfl (by decide)
  obtain ⟨rfl, Nq102, P102_0⟩ := hQ102
  have N102 := Fr.app N101 Nq102
  obtain ⟨T103, h103, X103, e103, W103, st103⟩ := putF X102 hx hZ hown (host := "") (Or.inl (own_w hw 313 rfl)) Via.refl P102_0 F_e0_r0 E_r0 (Or.inr ⟨(own_w hw 314 rfl), rfl, hnm⟩) (own_w hw 302 rfl) (ty := (.object kOB)) (by decide) rfl rfl (g := (mkF m 9 #[oR r0, oR r1, oR r2] [(.ref r1), (.ref r0)])) rfl rfl (hb hby d45_9)
  have Fw103 := F_e0_r0.same W103
  have N103 := Fr.snoc X103 N102 g_r0
  have ZZ104 : n0 ≤ h103.size := Nat.le_trans Z0 (Nat.le_of_eq W103.size.symm)
  have KK105 : Keep h0 h103 [r0] := (Keep.refl h0 [r0]).wr W103 (Or.inl (List.mem_of_getElem? (i := 0) rfl))
  obtain ⟨_, T106, L106, X106, hQ106, st106⟩ := own_cS X103 hx hZ hw hown (W := 1) (rmm41 l Z a0 hw [] r2 h103 n0 ZZ104 ) (by decide) (by decide) (by decide) 312 rfl 273 rfl 111 rfl 274 rfl e103 (g := (mkF m 14 #[oR r0, oR r1, oR r2] [(.ref r2), (.ref r0)])) rfl (by rw [hml]; rfl) (argsL := [(.ref r2)]) (rest := [(.ref r0)]) (lenOf pd10 rfl) rfl (Nat.le_of_eq rfl) (hb hby d45_14) rfl (cN := 0) rfl (by decide) (sN := 0) rfl (by decide)
  obtain ⟨rfl, Nq106, P106_0⟩ := hQ106
  have N106 := Fr.app N103 Nq106
  have Fc107 := (F_e1_r0.other W103 (Or.inr (sn9 hw)))
  obtain ⟨T108, h108, X108, e108, W108, st108⟩ := putF X106 hx hZ hown (host := "") (Or.inl (own_w hw 315 rfl)) Via.refl P106_0 Fc107 (E_r0.wr W103) (Or.inr ⟨(own_w hw 316 rfl), rfl, hnm⟩) (own_w hw 302 rfl) (ty := (.object kOB)) (by decide) rfl rfl (g := (mkF m 17 #[oR r0, oR r1, oR r2] [(.ref r2), (.ref r0)])) rfl rfl (hb hby d45_17)
  have Fw108 := Fc107.same W108
  have N108 := Fr.snoc X108 N106 g_r0
  have ZZ109 : n0 ≤ h108.size := Nat.le_trans ZZ104 (Nat.le_of_eq W108.size.symm)
  have KK110 : Keep h0 h108 [r0] := KK105.wr W108 (Or.inl (List.mem_of_getElem? (i := 0) rfl))
  obtain ⟨fs, hr, hrun, hended, hW, hsame⟩ := X108.leave (v := none) (fun _ => rfl)
  refine ⟨_, _, pre0 _ ?_, hrun, hended, _, _, rfl, ?_, ⟨_, rfl⟩, hW, hsame.mono (by decide) (by decide)⟩
  · show own_S p e below s₁ m 0 #[oR r0, oR r1, oR r2] [] _
    refine XS.aloadN X0.here hx rfl (hb hby d45_0) rfl rfl ?_
    show own_S p e below s₁ m 1 _ [(.ref r0)] _
    refine st101.trans ?_
    show own_S p e below T101 m 4 _ [] _
    refine XS.aloadN X101.here hx rfl (hb hby d45_4) rfl rfl ?_
    refine XS.aloadN X101.here hx rfl (hb hby d45_5) rfl rfl ?_
    show own_S p e below T101 m 6 _ [(.ref r1), (.ref r0)] _
    refine st102.trans ?_
    show own_S p e below T102 m 9 _ [(.ref r1), (.ref r0)] _
    refine st103 _ ?_
    show own_S p e below T103 m 12 _ [] _
    refine XS.aloadN X103.here hx rfl (hb hby d45_12) rfl rfl ?_
    refine XS.aloadN X103.here hx rfl (hb hby d45_13) rfl rfl ?_
    show own_S p e below T103 m 14 _ [(.ref r2), (.ref r0)] _
    refine st106.trans ?_
    show own_S p e below T106 m 17 _ [(.ref r2), (.ref r0)] _
    refine st108 _ ?_
    show own_S p e below T108 m 20 _ [] _
    exact X108.returnOut hx Bd.returns (hb hby d45_20) hr
  · show Qm45 Z r0 r1 r2 w0 w1 h0 n0 _ T108.heap _
    rw [e108]
    exact ⟨rfl, N108, KK110, (Fw103.other W108 (Or.inr (Ne.symm (sn9 hw)))), Fw108⟩
theorem sn10 {Z : State} {a0 : Array Value} (hw : own_HW Z a0) : Jvm.RoadKit.slotOf Z kLN "allowNulls" "Z" ≠ Jvm.RoadKit.slotOf Z kLN "elements" kOA := slot_ne (Or.inr (own_w hw 298 rfl)) (Or.inr (own_w hw 296 rfl)) (by decide) (t := .boolean) (t' := (.array (.object kOB))) (by decide) (by decide)
theorem d42_0 : decode k42 0 = .ok (.aload_n 0, 1) := by decide +kernel
theorem d42_1 : decode k42 1 = .ok (.invokespecial 1, 3) := by decide +kernel
theorem d42_4 : decode k42 4 = .ok (.aload_n 0, 1) := by decide +kernel
theorem d42_5 : decode k42 5 = .ok (.aload_n 1, 1) := by decide +kernel
theorem d42_6 : decode k42 6 = .ok (.putfield 7, 3) := by decide +kernel
theorem d42_9 : decode k42 9 = .ok (.aload_n 0, 1) := by decide +kernel
theorem d42_10 : decode k42 10 = .ok (.iload_n 2, 1) := by decide +kernel
theorem d42_11 : decode k42 11 = .ok (.putfield 13, 3) := by decide +kernel
theorem d42_14 : decode k42 14 = .ok (.return_, 1) := by decide +kernel
theorem pn11 : plainName kLN = true := by first | (simp [plainName, overriddenIn]; done) | decide +kernel
theorem efm42 (m : MethodId) (r0 : Addr) (r1 : Addr) : entryFrame m #[(.ref r0), (.ref r1), (.int 0)] 3 = mkF m 0 #[oR r0, oR r1, oI 0] [] := by first | (simp [entryFrame, mkF, argsToLocals, Value.category]; done) | rfl
def Qm42 (Z : State) (r0 : Addr) (r1 : Addr) (w0 : Value) (w1 : Value) (h0 : Heap) (n0 : Nat) (v : Option Value) (h : Heap) (L : List Loc) : Prop := v = none ∧ Fr n0 L ∧ (Keep h0 h [r0]) ∧ (Fld Z h r0 kLN "elements" kOA (.ref r1)) ∧ (Fld Z h r0 kLN "allowNulls" "Z" (.int 0))
set_option maxRecDepth 65536 in
set_option maxHeartbeats 40000000 in
theorem rmm42 (l : Launch) (Z : State) (a0 : Array Value) (hw : own_HW Z a0) (ws : List Jvm.Cond) (r0 : Addr) (r1 : Addr) (w0 : Value) (w1 : Value) (h0 : Heap) (n0 : Nat) (Z0 : n0 ≤ h0.size) (E_r0 : Exa Z h0 r0 kLN) (g_r0 : n0 ≤ r0) (F_elements_r0 : Fld Z h0 r0 kLN "elements" kOA w0) (F_allowNulls_r0 : Fld Z h0 r0 kLN "allowNulls" "Z" w1) :
    MetFree l (⟨kLN, "<init>", "([Ljava/lang/Object;Z)V"⟩ : MethodName) (head1 (Jvm.Cond.code (⟨kLN, "<init>", "([Ljava/lang/Object;Z)V"⟩ : MethodName) jdk_45_method_1_code 3 none :: ws) ({ frames := 4, cells := 0, slots := 0, locals := 48 } : Room)) (fun a U => a = #[(.ref r0), (.ref r1), (.int 0)] ∧ Z.Warmed39 U.vm ∧ U.heap = h0) (fun _ _ _ _ _ => True) (fun _ U o U' => ∃ v L, o = .returned v ∧ Qm42 Z r0 r1 w0 w1 h0 n0 v U'.heap L ∧ FrameEnd U o U' L ({ frames := 4, cells := 0, slots := 0, locals := 48 } : Room).cells ({ frames := 4, cells := 0, slots := 0, locals := 48 } : Room).slots) := by
  refine MetFree.of_bodySF (plainFor_of_name pn11) hisR ?_
  intro p e s m args below meth c s₁ Bd hml0 hP hK
  obtain ⟨rfl, hZ, hh⟩ := hP
  have hx := Bd.exec
  have hby := Bd.bytes
  have hml : c.maxLocals = 3 := hml0
  have hown : s.vm.findClass kLN = some m.cls := findClass_of_methodNamed Bd.named
  have hnm := (name_of_methodNamed Bd.named Bd.method).1
  have X0 : Stand p l e ({ frames := 4, cells := 0, slots := 0, locals := 48 } : Room) s m #[(.ref r0), (.ref r1), (.int 0)] below meth c s₁ [] 0 0 := Stand.of_body Bd
  have e0 : s₁.heap = h0 := by rw [← hh, Bd.state]; rfl
  have N0 := Fr.nil n0
  have pre0 : ∀ t, Steps p.tables e below (s₁.setTop (mkF m 0 #[oR r0, oR r1, oI 0] [])) t → Steps p.tables e below (s₁.setTop (entryFrame m #[(.ref r0), (.ref r1), (.int 0)] 3)) t := fun t k => castTop (efm42 m r0 r1) k
  obtain ⟨_, T101, L101, X101, hQ101, st101⟩ := own_cC X0 hx hZ hw hown (b := r0) (W := 0) (rmm43 l Z a0 hw [] r0 h0 n0 Z0 ) (by decide) (by decide) (by decide) rfl 281 rfl 282 rfl 286 rfl 285 rfl e0 (g := (mkF m 1 #[oR r0, oR r1, oI 0] [(.ref r0)])) rfl (by rw [hml]; rfl) (argsL := []) (rest := []) (lenOf pd0 rfl) rfl (Nat.le_of_eq rfl) (hb hby d42_1) rfl (cN := 0) rfl (by decide) (sN := 0) rfl (by decide)
  obtain ⟨rfl, Nq101, P101_0⟩ := hQ101
  have N101 := Fr.app N0 Nq101
  obtain ⟨T102, h102, X102, e102, W102, st102⟩ := putF X101 hx hZ hown (host := "") (Or.inl (own_w hw 295 rfl)) Via.refl P101_0 F_elements_r0 E_r0 (Or.inr ⟨(own_w hw 296 rfl), rfl, hnm⟩) (own_w hw 275 rfl) (ty := (.array (.object kOB))) (by decide) rfl rfl (g := (mkF m 6 #[oR r0, oR r1, oI 0] [(.ref r1), (.ref r0)])) rfl rfl (hb hby d42_6)
  have Fw102 := F_elements_r0.same W102
  have N102 := Fr.snoc X102 N101 g_r0
  have ZZ103 : n0 ≤ h102.size := Nat.le_trans Z0 (Nat.le_of_eq W102.size.symm)
  have KK104 : Keep h0 h102 [r0] := (Keep.refl h0 [r0]).wr W102 (Or.inl (List.mem_of_getElem? (i := 0) rfl))
  have Fc105 := (F_allowNulls_r0.other W102 (Or.inr (sn10 hw)))
  obtain ⟨T106, h106, X106, e106, W106, st106⟩ := putFN X102 hx hZ hown (own_w hw 297 rfl) Via.refl e102 Fc105 (E_r0.wr W102) (Or.inr ⟨(own_w hw 298 rfl), rfl, hnm⟩) (own_w hw 275 rfl) (ty := .boolean) (v' := (.int 0)) (by decide) rfl (by decide) (g := (mkF m 11 #[oR r0, oR r1, oI 0] [(.int 0), (.ref r0)])) rfl rfl (hb hby d42_11)
  have Fw106 := Fc105.same W106
  have N106 := Fr.snoc X106 N102 g_r0
  have ZZ107 : n0 ≤ h106.size := Nat.le_trans ZZ103 (Nat.le_of_eq W106.size.symm)
  have KK108 : Keep h0 h106 [r0] := KK104.wr W106 (Or.inl (List.mem_of_getElem? (i := 0) rfl))
  obtain ⟨fs, hr, hrun, hended, hW, hsame⟩ := X106.leave (v := none) (fun _ => rfl)
  refine ⟨_, _, pre0 _ ?_, hrun, hended, _, _, rfl, ?_, ⟨_, rfl⟩, hW, hsame.mono (by decide) (by decide)⟩
  · show own_S p e below s₁ m 0 #[oR r0, oR r1, oI 0] [] _
    refine XS.aloadN X0.here hx rfl (hb hby d42_0) rfl rfl ?_
    show own_S p e below s₁ m 1 _ [(.ref r0)] _
    refine st101.trans ?_
    show own_S p e below T101 m 4 _ [] _
    refine XS.aloadN X101.here hx rfl (hb hby d42_4) rfl rfl ?_
    refine XS.aloadN X101.here hx rfl (hb hby d42_5) rfl rfl ?_
    show own_S p e below T101 m 6 _ [(.ref r1), (.ref r0)] _
    refine st102 _ ?_
    show own_S p e below T102 m 9 _ [] _
    refine XS.aloadN X102.here hx rfl (hb hby d42_9) rfl rfl ?_
    refine XS.iloadN X102.here hx rfl (hb hby d42_10) rfl ?_
    show own_S p e below T102 m 11 #[oR r0, oR r1, oI 0] [(.int 0), (.ref r0)] _
    refine st106 _ ?_
    show own_S p e below T106 m 14 _ [] _
    exact X106.returnOut hx Bd.returns (hb hby d42_14) hr
  · show Qm42 Z r0 r1 w0 w1 h0 n0 _ T106.heap _
    rw [e106]
    exact ⟨rfl, N106, KK108, (Fw102.other W106 (Or.inr (Ne.symm (sn10 hw)))), Fw106⟩
theorem d38_0 : decode k38 0 = .ok (.iload_n 0, 1) := by decide +kernel
theorem d38_1 : decode k38 1 = .ok (.iload_n 1, 1) := by decide +kernel
theorem d38_2 : decode k38 2 = .ok (.if_icmp .gt 7, 3) := by decide +kernel
theorem d38_9 : decode k38 9 = .ok (.iload_n 1, 1) := by decide +kernel
theorem d38_10 : decode k38 10 = .ok (.ireturn, 1) := by decide +kernel
theorem ef_mi3_10 (m : MethodId)  : entryFrame m #[(.int 10), (.int 3)] 2 = mkF m 0 #[oI 10, oI 3] [] := by first | (simp [entryFrame, mkF, argsToLocals, Value.category]; done) | rfl
def Q_mi3_10 (Z : State)  (h0 : Heap) (n0 : Nat) (v : Option Value) (h : Heap) (L : List Loc) : Prop := v = some (.int 3) ∧ Fr n0 L ∧ (h = h0)
set_option maxRecDepth 65536 in
set_option maxHeartbeats 40000000 in
theorem rm_mi3_10 (l : Launch) (Z : State) (a0 : Array Value) (hw : own_HW Z a0) (ws : List Jvm.Cond)  (h0 : Heap) (n0 : Nat) (Z0 : n0 ≤ h0.size)  :
    MetFree l (⟨"java/lang/Math", "min", "(II)I"⟩ : MethodName) (head1 (Jvm.Cond.code (⟨"java/lang/Math", "min", "(II)I"⟩ : MethodName) jdk_29_method_69_code 2 (some .int) :: ws) ({ frames := 0, cells := 0, slots := 0, locals := 0 } : Room)) (fun a U => a = #[(.int 10), (.int 3)] ∧ Z.Warmed39 U.vm ∧ U.heap = h0) (fun _ _ _ _ _ => True) (fun _ U o U' => ∃ v L, o = .returned v ∧ Q_mi3_10 Z  h0 n0 v U'.heap L ∧ FrameEnd U o U' L ({ frames := 0, cells := 0, slots := 0, locals := 0 } : Room).cells ({ frames := 0, cells := 0, slots := 0, locals := 0 } : Room).slots) := by
  refine MetFree.of_bodySF (Jvm.Free.JP.mathPlain rfl (by decide +kernel)) hisR ?_
  intro p e s m args below meth c s₁ Bd hml0 hP hK
  obtain ⟨rfl, hZ, hh⟩ := hP
  have hx := Bd.exec
  have hby := Bd.bytes
  have hml : c.maxLocals = 2 := hml0
  have hown : s.vm.findClass "java/lang/Math" = some m.cls := findClass_of_methodNamed Bd.named
  have hnm := (name_of_methodNamed Bd.named Bd.method).1
  have X0 : Stand p l e ({ frames := 0, cells := 0, slots := 0, locals := 0 } : Room) s m #[(.int 10), (.int 3)] below meth c s₁ [] 0 0 := Stand.of_body Bd
  have e0 : s₁.heap = h0 := by rw [← hh, Bd.state]; rfl
  have N0 := Fr.nil n0
  have pre0 : ∀ t, Steps p.tables e below (s₁.setTop (mkF m 0 #[oI 10, oI 3] [])) t → Steps p.tables e below (s₁.setTop (entryFrame m #[(.int 10), (.int 3)] 2)) t := fun t k => castTop (ef_mi3_10 m ) k
  obtain ⟨fs, hr, hrun, hended, hW, hsame⟩ := X0.leave (v := some (.int 3)) (fun h => by rw [Bd.returns] at h; cases h)
  refine ⟨_, _, pre0 _ ?_, hrun, hended, _, _, rfl, ?_, ⟨_, rfl⟩, hW, hsame.mono (by decide) (by decide)⟩
  · show own_S p e below s₁ m 0 #[oI 10, oI 3] [] _
    refine XS.iloadN X0.here hx rfl (hb hby d38_0) rfl ?_
    refine XS.iloadN X0.here hx rfl (hb hby d38_1) rfl ?_
    refine XS.icmpYes X0.here hx rfl (pc0 := 2) (pc' := 9) rfl (hb hby d38_2) rfl (tlt (by decide : (3 : Int32) < (10 : Int32))).2.2.1 (by decide) (by decide) ?_
    refine XS.iloadN X0.here hx rfl (hb hby d38_9) rfl ?_
    show own_S p e below s₁ m 10 _ [(.int 3)] _
    exact retOut X0 hx Bd.returns rfl (Or.inl ⟨rfl, Or.inl rfl, _, rfl⟩) (hb hby d38_10) hr
  · show Q_mi3_10 Z  h0 n0 _ s₁.heap _
    rw [e0]
    exact ⟨rfl, N0, rfl⟩
theorem d37_0 : decode k37 0 = .ok (.aload_n 2, 1) := by decide +kernel
theorem d37_1 : decode k37 1 = .ok (.ldc 110, 2) := by decide +kernel
theorem d37_3 : decode k37 3 = .ok (.if_acmp .ne 10, 3) := by decide +kernel
theorem d37_6 : decode k37 6 = .ok (.iload_n 1, 1) := by decide +kernel
theorem d37_7 : decode k37 7 = .ok (.anewarray 2, 3) := by decide +kernel
theorem d37_10 : decode k37 10 = .ok (.goto 14, 3) := by decide +kernel
theorem d37_24 : decode k37 24 = .ok (.astore_n 3, 1) := by decide +kernel
theorem d37_25 : decode k37 25 = .ok (.aload_n 0, 1) := by decide +kernel
theorem d37_26 : decode k37 26 = .ok (.iconst 0, 1) := by decide +kernel
theorem d37_27 : decode k37 27 = .ok (.aload_n 3, 1) := by decide +kernel
theorem d37_28 : decode k37 28 = .ok (.iconst 0, 1) := by decide +kernel
theorem d37_29 : decode k37 29 = .ok (.aload_n 0, 1) := by decide +kernel
theorem d37_30 : decode k37 30 = .ok (.arraylength, 1) := by decide +kernel
theorem d37_31 : decode k37 31 = .ok (.iload_n 1, 1) := by decide +kernel
theorem d37_32 : decode k37 32 = .ok (.invokestatic 304, 3) := by decide +kernel
theorem d37_35 : decode k37 35 = .ok (.invokestatic 150, 3) := by decide +kernel
theorem d37_38 : decode k37 38 = .ok (.aload_n 3, 1) := by decide +kernel
theorem d37_39 : decode k37 39 = .ok (.areturn, 1) := by decide +kernel
theorem pn12 : plainName "java/util/Arrays" = true := by first | (simp [plainName, overriddenIn]; done) | decide +kernel
theorem ef_c33_10 (m : MethodId) (el : Addr) (mr : Addr) : entryFrame m #[(.ref el), (.int 3), (.ref mr)] 4 = mkF m 0 #[oR el, oI 3, oR mr, oU] [] := by first | (simp [entryFrame, mkF, argsToLocals, Value.category]; done) | rfl
def Q_c33_10 (Z : State) (el : Addr) (mr : Addr) (kel : ClassId) (x0 : Addr) (x1 : Addr) (x2 : Addr) (h0 : Heap) (n0 : Nat) (v : Option Value) (h : Heap) (L : List Loc) : Prop := ∃ na : Addr, ∃ kna : ClassId, v = some (.ref na) ∧ Fr n0 L ∧ (Keep h0 h []) ∧ (h0.size ≤ na) ∧ (Arv Z h na kna (.object kOB) (3 : Int32) [(.ref x0), (.ref x1), (.ref x2)] .null) ∧ (Exa Z h na kOA)
set_option maxRecDepth 65536 in
set_option maxHeartbeats 40000000 in
theorem rm_c33_10 (l : Launch) (Z : State) (a0 : Array Value) (hw : own_HW Z a0) (ws : List Jvm.Cond) (el : Addr) (mr : Addr) (kel : ClassId) (x0 : Addr) (x1 : Addr) (x2 : Addr) (h0 : Heap) (n0 : Nat) (Z0 : n0 ≤ h0.size) (V_el : Arv Z h0 el kel (.object kOB) (10 : Int32) [(.ref x0), (.ref x1), (.ref x2), .null] .null) (E_el : Exa Z h0 el kOA) (I_x0 : Ins Z h0 x0 kOB true) (I_x1 : Ins Z h0 x1 kOB true) (I_x2 : Ins Z h0 x2 kOB true) (M_mr : own_Mi Z kOA mr) :
    MetFree l (⟨"java/util/Arrays", "copyOf", "([Ljava/lang/Object;ILjava/lang/Class;)[Ljava/lang/Object;"⟩ : MethodName) (head1 (Jvm.Cond.code (⟨"java/util/Arrays", "copyOf", "([Ljava/lang/Object;ILjava/lang/Class;)[Ljava/lang/Object;"⟩ : MethodName) jdk_65_method_120_code 4 (some (.array (.object kOB))) :: ws) ({ frames := 1, cells := 1, slots := 3, locals := 20 } : Room)) (fun a U => a = #[(.ref el), (.int 3), (.ref mr)] ∧ Z.Warmed39 U.vm ∧ U.heap = h0) (fun _ _ _ _ _ => True) (fun _ U o U' => ∃ v L, o = .returned v ∧ Q_c33_10 Z el mr kel x0 x1 x2 h0 n0 v U'.heap L ∧ FrameEnd U o U' L ({ frames := 1, cells := 1, slots := 3, locals := 20 } : Room).cells ({ frames := 1, cells := 1, slots := 3, locals := 20 } : Room).slots) := by
  refine MetFree.of_bodySF (plainFor_of_name pn12) hisR ?_
  intro p e s m args below meth c s₁ Bd hml0 hP hK
  obtain ⟨rfl, hZ, hh⟩ := hP
  have hx := Bd.exec
  have hby := Bd.bytes
  have hml : c.maxLocals = 4 := hml0
  have hown : s.vm.findClass "java/util/Arrays" = some m.cls := findClass_of_methodNamed Bd.named
  have hnm := (name_of_methodNamed Bd.named Bd.method).1
  have X0 : Stand p l e ({ frames := 1, cells := 1, slots := 3, locals := 20 } : Room) s m #[(.ref el), (.int 3), (.ref mr)] below meth c s₁ [] 0 0 := Stand.of_body Bd
  have e0 : s₁.heap = h0 := by rw [← hh, Bd.state]; rfl
  have N0 := Fr.nil n0
  have pre0 : ∀ t, Steps p.tables e below (s₁.setTop (mkF m 0 #[oR el, oI 3, oR mr, oU] [])) t → Steps p.tables e below (s₁.setTop (entryFrame m #[(.ref el), (.int 3), (.ref mr)] 4)) t := fun t k => castTop (ef_c33_10 m el mr) k
  obtain ⟨T101, X101, e101, st101⟩ := own_ldcM X0 hx hZ hown (own_w hw 256 rfl) e0 M_mr (g := (mkF m 1 #[oR el, oI 3, oR mr, oU] [(.ref mr)])) rfl (hb hby d37_1)
  obtain ⟨T102, h102, k102, X102, e102, E102, A102, Ea102, O102, st102⟩ := newRE X101 hx hZ hown (own_w hw 257 rfl) (own_w hw 85 rfl) e101 (g := (mkF m 7 #[oR el, oI 3, oR mr, oU] [(.int 3)])) rfl (hb hby d37_7) rfl (by decide) (cap := 3) (by decide) (by decide) (by decide) (by decide) (ad := kOA) (by decide)
  obtain ⟨b102, g102⟩ : ∃ z, z = h0.size := ⟨_, rfl⟩
  rw [← g102] at A102 Ea102 st102
  have g_b102 : n0 ≤ b102 := Nat.le_trans Z0 (Nat.le_of_eq g102.symm)
  have sz_b102 : h0.size ≤ b102 := Nat.le_trans (Keep.refl h0 []).1 (Nat.le_of_eq g102.symm)
  have ZZ103 : n0 ≤ h102.size := Nat.le_trans Z0 E102.1
  have KK104 : Keep h0 h102 [] := (Keep.refl h0 []).ext E102
  have V_b102 : Arv Z h102 b102 k102 (.object kOB) (3 : Int32) [.null, .null, .null] .null := (Arv.new A102 (by decide)).pad (pad_rep [] .null 3)
  obtain ⟨cl105, Ar105, qk105, Sz105, Nz105, Hh105, Gg105⟩ := id (V_el.ext E102)
  obtain ⟨_, T106, L106, X106, hQ106, st106⟩ := own_cS X102 hx hZ hw hown (W := 4) (rm_mi3_10 l Z a0 hw []  h102 n0 ZZ103 ) (by decide) (by decide) (by decide) 258 rfl 259 rfl 82 rfl 260 rfl e102 (g := (mkF m 32 #[oR el, oI 3, oR mr, oR b102] [(.int 3), (.int 10), (.int 0), (.ref b102), (.int 0), (.ref el)])) rfl (by rw [hml]; rfl) (argsL := [(.int 10), (.int 3)]) (rest := [(.int 0), (.ref b102), (.int 0), (.ref el)]) (lenOf pd2 rfl) rfl (Nat.le_of_eq rfl) (hb hby d37_32) rfl (cN := 1) rfl (by decide) (sN := 3) rfl (by decide)
  obtain ⟨rfl, Nq106, P106_0⟩ := hQ106
  have N106 := Fr.app N0 Nq106
  obtain ⟨cl107, Ar107, qk107, Sz107, Nz107, Hh107, Gg107⟩ := id V_b102
  obtain ⟨T108, h108, L108, X108, e108, N108, K108, A108, st108⟩ := cpA (us := [(.ref x0), (.ref x1), (.ref x2)]) X106 hx hZ hown (own_w hw 261 rfl) (own_w hw 264 rfl) (own_w hw 262 rfl) (own_w hw 263 rfl) P106_0 (V_el.ext E102) V_b102 (Or.inr ⟨rfl, rfl, ⟨(Sto.ofV Ar107 qk107 O102 (I_x0.ext E102)), ⟨(Sto.ofV Ar107 qk107 O102 (I_x1.ext E102)), ⟨(Sto.ofV Ar107 qk107 O102 (I_x2.ext E102)), trivial⟩⟩⟩⟩) (by decide) (by decide) (by decide) (by decide) (by decide) rfl (Nat.le_of_ble_eq_true rfl) N106 g_b102 (g := (mkF m 35 #[oR el, oI 3, oR mr, oR b102] [(.int 3), (.int 0), (.ref b102), (.int 0), (.ref el)])) rfl (by rw [hml]; rfl) rfl (hb hby d37_35) (by decide) (W := 0) (by show 2 * 0 + _ ≤ _; exact Nat.le_of_eq rfl) (by decide +kernel)
  have ZZ109 : n0 ≤ h108.size := Nat.le_trans ZZ103 K108.1
  have KK110 : Keep h0 h108 [] := Keep.trans KK104 K108 (allS (Or.inr sz_b102) all0)
  have V108 : Arv Z h108 b102 k102 (.object kOB) (3 : Int32) [(.ref x0), (.ref x1), (.ref x2)] .null := A108
  obtain ⟨fs, hr, hrun, hended, hW, hsame⟩ := X108.leave (v := some (.ref b102)) (fun h => by rw [Bd.returns] at h; cases h)
  refine ⟨_, _, pre0 _ ?_, hrun, hended, _, _, rfl, ?_, ⟨_, rfl⟩, hW, hsame.mono (by decide) (by decide)⟩
  · show own_S p e below s₁ m 0 #[oR el, oI 3, oR mr, oU] [] _
    refine XS.aloadN X0.here hx rfl (hb hby d37_0) rfl rfl ?_
    show own_S p e below s₁ m 1 _ [(.ref mr)] _
    refine st101 _ ?_
    show own_S p e below T101 m 3 _ [(.ref mr), (.ref mr)] _
    refine Jvm.RoadKit.acmp (g := (mkF m 3 #[oR el, oI 3, oR mr, oU] [(.ref mr), (.ref mr)])) X101 hx rfl rfl rfl (pc0 := 3) (pc' := 6) (same := true) rfl (hb hby d37_3) rfl (decide_eq_true rfl) (by decide) (by decide) ?_
    show own_S p e below T101 m 6 _ [] _
    refine XS.iloadN X101.here hx rfl (hb hby d37_6) rfl ?_
    show own_S p e below T101 m 7 _ [(.int 3)] _
    refine st102 _ ?_
    show own_S p e below T102 m 10 _ [(.ref b102)] _
    refine XS.goto X102.here hx rfl (pc0 := 10) (pc' := 24) rfl (hb hby d37_10) (by decide) (by decide) ?_
    refine XS.astoreN X102.here hx rfl (hb hby d37_24) rfl rfl (l' := #[oR el, oI 3, oR mr, oR b102]) rfl ?_
    refine XS.aloadN X102.here hx rfl (hb hby d37_25) rfl rfl ?_
    refine XS.iconst X102.here hx rfl (hb hby d37_26) ?_
    show own_S p e below T102 m 27 _ [(.int 0), (.ref el)] _
    refine XS.aloadN X102.here hx rfl (hb hby d37_27) rfl rfl ?_
    refine XS.iconst X102.here hx rfl (hb hby d37_28) ?_
    refine XS.aloadN X102.here hx rfl (hb hby d37_29) rfl rfl ?_
    show own_S p e below T102 m 30 _ [(.ref el), (.int 0), (.ref b102), (.int 0), (.ref el)] _
    refine X102.arraylength hx (by rw [e102]; exact Ar105.1) (State.isArrayOf_alike hZ.alike Ar105.2.1) (g := (mkF m 30 #[oR el, oI 3, oR mr, oR b102] [(.ref el), (.int 0), (.ref b102), (.int 0), (.ref el)])) rfl rfl (hb hby d37_30) _ ?_
    rw [len_of Sz105 Nz105]
    show own_S p e below T102 m 31 _ [(.int 10), (.int 0), (.ref b102), (.int 0), (.ref el)] _
    refine XS.iloadN X102.here hx rfl (hb hby d37_31) rfl ?_
    show own_S p e below T102 m 32 #[oR el, oI 3, oR mr, oR b102] [(.int 3), (.int 10), (.int 0), (.ref b102), (.int 0), (.ref el)] _
    refine st106.trans ?_
    show own_S p e below T106 m 35 _ [(.int 3), (.int 0), (.ref b102), (.int 0), (.ref el)] _
    refine st108 _ ?_
    show own_S p e below T108 m 38 _ [] _
    refine XS.aloadN X108.here hx rfl (hb hby d37_38) rfl rfl ?_
    show own_S p e below T108 m 39 _ [(.ref b102)] _
    exact retOut X108 hx Bd.returns rfl (Or.inr (Or.inr (Or.inr (Or.inr ⟨rfl, rfl, rfl⟩)))) (hb hby d37_39) hr
  · show Q_c33_10 Z el mr kel x0 x1 x2 h0 n0 _ T108.heap _
    rw [e108]
    exact ⟨b102, k102, rfl, N108, KK110, sz_b102, V108, (Ea102.keep K108)⟩
theorem pd11 : parseMethodDescriptor "([Ljava/lang/Object;ILjava/lang/Class;)[Ljava/lang/Object;" = some ⟨[(.array (.object kOB)), .int, (.object "java/lang/Class")], some (.array (.object kOB))⟩ := by decide +kernel
theorem d36_0 : decode k36 0 = .ok (.aload_n 0, 1) := by decide +kernel
theorem d36_1 : decode k36 1 = .ok (.iload_n 1, 1) := by decide +kernel
theorem d36_2 : decode k36 2 = .ok (.aload_n 0, 1) := by decide +kernel
theorem d36_3 : decode k36 3 = .ok (.invokevirtual 86, 3) := by decide +kernel
theorem d36_6 : decode k36 6 = .ok (.invokestatic 300, 3) := by decide +kernel
theorem d36_9 : decode k36 9 = .ok (.areturn, 1) := by decide +kernel
theorem ef_c23_10 (m : MethodId) (el : Addr) : entryFrame m #[(.ref el), (.int 3)] 2 = mkF m 0 #[oR el, oI 3] [] := by first | (simp [entryFrame, mkF, argsToLocals, Value.category]; done) | rfl
def Q_c23_10 (Z : State) (el : Addr) (kel : ClassId) (x0 : Addr) (x1 : Addr) (x2 : Addr) (mr : Addr) (h0 : Heap) (n0 : Nat) (v : Option Value) (h : Heap) (L : List Loc) : Prop := ∃ na : Addr, ∃ kna : ClassId, v = some (.ref na) ∧ Fr n0 L ∧ (Keep h0 h []) ∧ (h0.size ≤ na) ∧ (Arv Z h na kna (.object kOB) (3 : Int32) [(.ref x0), (.ref x1), (.ref x2)] .null) ∧ (Exa Z h na kOA)
set_option maxRecDepth 65536 in
set_option maxHeartbeats 40000000 in
theorem rm_c23_10 (l : Launch) (Z : State) (a0 : Array Value) (hw : own_HW Z a0) (ws : List Jvm.Cond) (el : Addr) (kel : ClassId) (x0 : Addr) (x1 : Addr) (x2 : Addr) (mr : Addr) (h0 : Heap) (n0 : Nat) (Z0 : n0 ≤ h0.size) (V_el : Arv Z h0 el kel (.object kOB) (10 : Int32) [(.ref x0), (.ref x1), (.ref x2), .null] .null) (E_el : Exa Z h0 el kOA) (I_x0 : Ins Z h0 x0 kOB true) (I_x1 : Ins Z h0 x1 kOB true) (I_x2 : Ins Z h0 x2 kOB true) (M_mr : own_Mi Z kOA mr) :
    MetFree l (⟨"java/util/Arrays", "copyOf", "([Ljava/lang/Object;I)[Ljava/lang/Object;"⟩ : MethodName) (head1 (Jvm.Cond.code (⟨"java/util/Arrays", "copyOf", "([Ljava/lang/Object;I)[Ljava/lang/Object;"⟩ : MethodName) jdk_65_method_119_code 2 (some (.array (.object kOB))) :: ws) ({ frames := 2, cells := 1, slots := 3, locals := 35 } : Room)) (fun a U => a = #[(.ref el), (.int 3)] ∧ Z.Warmed39 U.vm ∧ U.heap = h0) (fun _ _ _ _ _ => True) (fun _ U o U' => ∃ v L, o = .returned v ∧ Q_c23_10 Z el kel x0 x1 x2 mr h0 n0 v U'.heap L ∧ FrameEnd U o U' L ({ frames := 2, cells := 1, slots := 3, locals := 35 } : Room).cells ({ frames := 2, cells := 1, slots := 3, locals := 35 } : Room).slots) := by
  refine MetFree.of_bodySF (plainFor_of_name pn12) hisR ?_
  intro p e s m args below meth c s₁ Bd hml0 hP hK
  obtain ⟨rfl, hZ, hh⟩ := hP
  have hx := Bd.exec
  have hby := Bd.bytes
  have hml : c.maxLocals = 2 := hml0
  have hown : s.vm.findClass "java/util/Arrays" = some m.cls := findClass_of_methodNamed Bd.named
  have hnm := (name_of_methodNamed Bd.named Bd.method).1
  have X0 : Stand p l e ({ frames := 2, cells := 1, slots := 3, locals := 35 } : Room) s m #[(.ref el), (.int 3)] below meth c s₁ [] 0 0 := Stand.of_body Bd
  have e0 : s₁.heap = h0 := by rw [← hh, Bd.state]; rfl
  have N0 := Fr.nil n0
  have pre0 : ∀ t, Steps p.tables e below (s₁.setTop (mkF m 0 #[oR el, oI 3] [])) t → Steps p.tables e below (s₁.setTop (entryFrame m #[(.ref el), (.int 3)] 2)) t := fun t k => castTop (ef_c23_10 m el) k
  obtain ⟨T101, X101, e101, st101⟩ := own_gcls X0 hx hZ hown (own_w hw 247 rfl) (own_w hw 248 rfl) (own_w hw 228 rfl) (own_w hw 250 rfl) (own_w hw 249 rfl) (own_w hw 251 rfl) e0 E_el M_mr (g := (mkF m 3 #[oR el, oI 3] [(.ref el), (.int 3), (.ref el)])) rfl (by rw [hml]; rfl) rfl (hb hby d36_3) (by decide) (W := 2) (by show 2 * 0 + _ ≤ _; exact Nat.le_of_eq rfl) (by decide +kernel)
  obtain ⟨_, T102, L102, X102, hQ102, st102⟩ := own_cS X101 hx hZ hw hown (W := 0) (rm_c33_10 l Z a0 hw [] el mr kel x0 x1 x2 h0 n0 Z0 V_el E_el I_x0 I_x1 I_x2 M_mr) (by decide) (by decide) (by decide) 253 rfl 254 rfl 245 rfl 255 rfl e101 (g := (mkF m 6 #[oR el, oI 3] [(.ref mr), (.int 3), (.ref el)])) rfl (by rw [hml]; rfl) (argsL := [(.ref el), (.int 3), (.ref mr)]) (rest := []) (lenOf pd11 rfl) rfl (Nat.le_of_eq rfl) (hb hby d36_6) rfl (cN := 1) rfl (by decide) (sN := 3) rfl (by decide)
  obtain ⟨na_102, kna_102, rfl, Nq102, P102_0, P102_1, P102_2, P102_3⟩ := hQ102
  have N102 := Fr.app N0 Nq102
  have g_na_102 : n0 ≤ na_102 := Nat.le_trans Z0 P102_1
  have sz_na_102 : h0.size ≤ na_102 := Nat.le_trans (Keep.refl h0 []).1 P102_1
  have ZZ103 : n0 ≤ T102.heap.size := Nat.le_trans Z0 P102_0.1
  have KK104 : Keep h0 T102.heap [] := Keep.trans (Keep.refl h0 []) P102_0 all0
  obtain ⟨fs, hr, hrun, hended, hW, hsame⟩ := X102.leave (v := some (.ref na_102)) (fun h => by rw [Bd.returns] at h; cases h)
  refine ⟨_, _, pre0 _ ?_, hrun, hended, _, _, rfl, ?_, ⟨_, rfl⟩, hW, hsame.mono (by decide) (by decide)⟩
  · show own_S p e below s₁ m 0 #[oR el, oI 3] [] _
    refine XS.aloadN X0.here hx rfl (hb hby d36_0) rfl rfl ?_
    refine XS.iloadN X0.here hx rfl (hb hby d36_1) rfl ?_
    refine XS.aloadN X0.here hx rfl (hb hby d36_2) rfl rfl ?_
    show own_S p e below s₁ m 3 _ [(.ref el), (.int 3), (.ref el)] _
    refine st101 _ ?_
    show own_S p e below T101 m 6 _ [(.ref mr), (.int 3), (.ref el)] _
    refine st102.trans ?_
    show own_S p e below T102 m 9 _ [(.ref na_102)] _
    exact retOut X102 hx Bd.returns rfl (Or.inr (Or.inr (Or.inr (Or.inr ⟨rfl, rfl, rfl⟩)))) (hb hby d36_9) hr
  · show Q_c23_10 Z el kel x0 x1 x2 mr h0 n0 _ T102.heap _
    exact ⟨na_102, kna_102, rfl, N102, KK104, sz_na_102, P102_2, P102_3⟩
theorem pd12 : parseMethodDescriptor "([Ljava/lang/Object;I)[Ljava/lang/Object;" = some ⟨[(.array (.object kOB)), .int], some (.array (.object kOB))⟩ := by decide +kernel
theorem d35_0 : decode k35 0 = .ok (.aload_n 0, 1) := by decide +kernel
theorem d35_1 : decode k35 1 = .ok (.getfield 9, 3) := by decide +kernel
theorem d35_4 : decode k35 4 = .ok (.aload_n 0, 1) := by decide +kernel
theorem d35_5 : decode k35 5 = .ok (.getfield 48, 3) := by decide +kernel
theorem d35_8 : decode k35 8 = .ok (.invokestatic 66, 3) := by decide +kernel
theorem d35_11 : decode k35 11 = .ok (.areturn, 1) := by decide +kernel
theorem ef_ta3_10 (m : MethodId) (r0 : Addr) : entryFrame m #[(.ref r0)] 1 = mkF m 0 #[oR r0] [] := by first | (simp [entryFrame, mkF, argsToLocals, Value.category]; done) | rfl
def Q_ta3_10 (Z : State) (r0 : Addr) (el : Addr) (kel : ClassId) (x0 : Addr) (x1 : Addr) (x2 : Addr) (mr : Addr) (h0 : Heap) (n0 : Nat) (v : Option Value) (h : Heap) (L : List Loc) : Prop := ∃ na : Addr, ∃ kna : ClassId, v = some (.ref na) ∧ Fr n0 L ∧ (Keep h0 h []) ∧ (h0.size ≤ na) ∧ (Arv Z h na kna (.object kOB) (3 : Int32) [(.ref x0), (.ref x1), (.ref x2)] .null) ∧ (Exa Z h na kOA)
set_option maxRecDepth 65536 in
set_option maxHeartbeats 40000000 in
theorem rm_ta3_10 (l : Launch) (Z : State) (a0 : Array Value) (hw : own_HW Z a0) (ws : List Jvm.Cond) (r0 : Addr) (el : Addr) (kel : ClassId) (x0 : Addr) (x1 : Addr) (x2 : Addr) (mr : Addr) (h0 : Heap) (n0 : Nat) (Z0 : n0 ≤ h0.size) (E_r0 : Exa Z h0 r0 kAL) (F_elementData_r0 : Fld Z h0 r0 kAL "elementData" kOA (.ref el)) (F_size_r0 : Fld Z h0 r0 kAL "size" "I" (.int 3)) (V_el : Arv Z h0 el kel (.object kOB) (10 : Int32) [(.ref x0), (.ref x1), (.ref x2), .null] .null) (E_el : Exa Z h0 el kOA) (I_x0 : Ins Z h0 x0 kOB true) (I_x1 : Ins Z h0 x1 kOB true) (I_x2 : Ins Z h0 x2 kOB true) (M_mr : own_Mi Z kOA mr) :
    MetFree l (⟨kAL, "toArray", "()[Ljava/lang/Object;"⟩ : MethodName) (head1 (Jvm.Cond.code (⟨kAL, "toArray", "()[Ljava/lang/Object;"⟩ : MethodName) jdk_38_method_16_code 1 (some (.array (.object kOB))) :: ws) ({ frames := 3, cells := 1, slots := 3, locals := 48 } : Room)) (fun a U => a = #[(.ref r0)] ∧ Z.Warmed39 U.vm ∧ U.heap = h0) (fun _ _ _ _ _ => True) (fun _ U o U' => ∃ v L, o = .returned v ∧ Q_ta3_10 Z r0 el kel x0 x1 x2 mr h0 n0 v U'.heap L ∧ FrameEnd U o U' L ({ frames := 3, cells := 1, slots := 3, locals := 48 } : Room).cells ({ frames := 3, cells := 1, slots := 3, locals := 48 } : Room).slots) := by
  refine MetFree.of_bodySF (plainFor_of_name pn2) hisR ?_
  intro p e s m args below meth c s₁ Bd hml0 hP hK
  obtain ⟨rfl, hZ, hh⟩ := hP
  have hx := Bd.exec
  have hby := Bd.bytes
  have hml : c.maxLocals = 1 := hml0
  have hown : s.vm.findClass kAL = some m.cls := findClass_of_methodNamed Bd.named
  have hnm := (name_of_methodNamed Bd.named Bd.method).1
  have X0 : Stand p l e ({ frames := 3, cells := 1, slots := 3, locals := 48 } : Room) s m #[(.ref r0)] below meth c s₁ [] 0 0 := Stand.of_body Bd
  have e0 : s₁.heap = h0 := by rw [← hh, Bd.state]; rfl
  have N0 := Fr.nil n0
  have pre0 : ∀ t, Steps p.tables e below (s₁.setTop (mkF m 0 #[oR r0] [])) t → Steps p.tables e below (s₁.setTop (entryFrame m #[(.ref r0)] 1)) t := fun t k => castTop (ef_ta3_10 m r0) k
  obtain ⟨T101, X101, e101, st101⟩ := getF X0 hx hZ hown (host := "") (Or.inl (own_w hw 24 rfl)) Via.refl e0 F_elementData_r0 (g := (mkF m 1 #[oR r0] [(.ref r0)])) rfl rfl (hb hby d35_1)
  obtain ⟨T102, X102, e102, st102⟩ := getF X101 hx hZ hown (host := "") (Or.inl (own_w hw 63 rfl)) Via.refl e101 F_size_r0 (g := (mkF m 5 #[oR r0] [(.ref r0), (.ref el)])) rfl rfl (hb hby d35_5)
  obtain ⟨_, T103, L103, X103, hQ103, st103⟩ := own_cS X102 hx hZ hw hown (W := 0) (rm_c23_10 l Z a0 hw [] el kel x0 x1 x2 mr h0 n0 Z0 V_el E_el I_x0 I_x1 I_x2 M_mr) (by decide) (by decide) (by decide) 243 rfl 244 rfl 245 rfl 246 rfl e102 (g := (mkF m 8 #[oR r0] [(.int 3), (.ref el)])) rfl (by rw [hml]; rfl) (argsL := [(.ref el), (.int 3)]) (rest := []) (lenOf pd12 rfl) rfl (Nat.le_of_eq rfl) (hb hby d35_8) rfl (cN := 1) rfl (by decide) (sN := 3) rfl (by decide)
  obtain ⟨na_103, kna_103, rfl, Nq103, P103_0, P103_1, P103_2, P103_3⟩ := hQ103
  have N103 := Fr.app N0 Nq103
  have g_na_103 : n0 ≤ na_103 := Nat.le_trans Z0 P103_1
  have sz_na_103 : h0.size ≤ na_103 := Nat.le_trans (Keep.refl h0 []).1 P103_1
  have ZZ104 : n0 ≤ T103.heap.size := Nat.le_trans Z0 P103_0.1
  have KK105 : Keep h0 T103.heap [] := Keep.trans (Keep.refl h0 []) P103_0 all0
  obtain ⟨fs, hr, hrun, hended, hW, hsame⟩ := X103.leave (v := some (.ref na_103)) (fun h => by rw [Bd.returns] at h; cases h)
  refine ⟨_, _, pre0 _ ?_, hrun, hended, _, _, rfl, ?_, ⟨_, rfl⟩, hW, hsame.mono (by decide) (by decide)⟩
  · show own_S p e below s₁ m 0 #[oR r0] [] _
    refine XS.aloadN X0.here hx rfl (hb hby d35_0) rfl rfl ?_
    show own_S p e below s₁ m 1 _ [(.ref r0)] _
    refine st101 _ ?_
    show own_S p e below T101 m 4 _ [(.ref el)] _
    refine XS.aloadN X101.here hx rfl (hb hby d35_4) rfl rfl ?_
    show own_S p e below T101 m 5 _ [(.ref r0), (.ref el)] _
    refine st102 _ ?_
    show own_S p e below T102 m 8 _ [(.int 3), (.ref el)] _
    refine st103.trans ?_
    show own_S p e below T103 m 11 _ [(.ref na_103)] _
    exact retOut X103 hx Bd.returns rfl (Or.inr (Or.inr (Or.inr (Or.inr ⟨rfl, rfl, rfl⟩)))) (hb hby d35_11) hr
  · show Q_ta3_10 Z r0 el kel x0 x1 x2 mr h0 n0 _ T103.heap _
    exact ⟨na_103, kna_103, rfl, N103, KK105, sz_na_103, P103_2, P103_3⟩
theorem pd13 : parseMethodDescriptor "([Ljava/lang/Object;Z)V" = some ⟨[(.array (.object kOB)), .boolean], none⟩ := by decide +kernel
theorem own_mvM {Z s : State} {a0 args : Array Value} {own host : String} {index : Nat} {y : MethodName} (hZ : Z.Warmed39 s.vm) (w : (Jvm.Cond.methodLinkNest own index y host).before a0 Z = true) : (Jvm.Cond.methodLinkNest own index y host).before args s = true := (Cond.methodLinkNest_wide hZ w :)
theorem own_specialNest {p : Program} {l : Launch} {e : Env} {R : Room} {s : State} {m : MethodId} {args : Array Value} {below : List Frame} {meth : Method} {c : Code} {T : State} {locs : List Loc} {cells slots : Nat} (X : Stand p l e R s m args below meth c T locs cells slots) (hexec : p.tables.exec = Jvm.exec) {own host : String} {index : Nat} {y : MethodName} (hy1 : y.name = "<init>")
    (hown : s.vm.findClass own = some m.cls) (hlink : (Jvm.Cond.methodLinkNest own index y host).before args s = true) (hinst : (Jvm.Cond.instanceMethod y).before args s = true) {bytes : ByteArray} {maxL : Nat} (hcode : (Jvm.Cond.code y bytes maxL none).before args s = true)
    (hy : y.cls ≠ "java/lang/invoke/MethodHandle" ∧ y.cls ≠ "java/lang/invoke/VarHandle") {W : Nat} {Pre : Pt → Array Value → Prop} {Post : Pt → Array Value → Option Value → Pt → Prop} (hK : Back l R p e below s args y 3 W Pre Post)
    {g : JFrame} (hg : g.method = m) (hsize : g.locals.size = c.maxLocals) {s0 : State} (hcome : Steps p.tables e below s0 (T.setTop g)) {a : Addr} {argsL rest : List Value}
    (hlen : ∀ sig, parseMethodDescriptor y.desc = some sig → argsL.length = sig.parameters.length) (hstack : g.stack = argsL.reverse ++ .ref a :: rest) (hW : 2 * g.monitorRoom + (rest.map fun v => v.category).sum ≤ W)
    (hdg : decode c.code g.pc = .ok (.invokespecial index, 3)) (hpre : ∀ vm1, s.WarmedH vm1 → Pre ⟨T.setVm vm1, locs, cells, slots⟩ (.ref a :: argsL).toArray) :
    ∃ (v : Option Value) (vm1 : Vm) (B : Pt), s.WarmedH vm1 ∧ Stand p l e R s m args below meth c B.U B.locs B.cells B.slots ∧ Post ⟨T.setVm vm1, locs, cells, slots⟩ (.ref a :: argsL).toArray v B ∧
      Steps p.tables e below s0 (B.U.setTop { g with pc := g.pc + 3, stack := v.toList ++ rest }) := by
  have hpl : e.platform.magicAccessors = ({} : Platform).magicAccessors := by rw [X.admits.platform]
  obtain ⟨mk, _, _, _, vm1, hnamed, _, _, _, _, _, _, _, hW1, hstep⟩ := Steps.initColdArgsNest (e := e) X.here hexec X.warmed hpl hown hy1 hy hlink hinst hcode (f := g) hg hlen hstack hdg
  have X1 := X.noted hW1
  obtain ⟨v, B, X2, hpost, hst⟩ := hK m meth c ⟨T.setVm vm1, locs, cells, slots⟩ { g with stack := rest } (.invokespecial index) mk (.ref a :: argsL).toArray X1 hg hsize hdg hW (X1.named hnamed) (hpre vm1 hW1)
  exact ⟨v, vm1, B, hW1, X2, hpost, (hcome.trans (hstep _ fun acts => by rw [doInvoke_state]; exact Steps.refl _)).trans hst⟩
theorem d40_0 : decode k40 0 = .ok (.aload_n 0, 1) := by decide +kernel
theorem d40_1 : decode k40 1 = .ok (.arraylength, 1) := by decide +kernel
theorem d40_2 : decode k40 2 = .ok (.anewarray 2, 3) := by decide +kernel
theorem d40_5 : decode k40 5 = .ok (.astore_n 1, 1) := by decide +kernel
theorem d40_6 : decode k40 6 = .ok (.iconst 0, 1) := by decide +kernel
theorem d40_7 : decode k40 7 = .ok (.istore_n 2, 1) := by decide +kernel
theorem d40_8 : decode k40 8 = .ok (.iload_n 2, 1) := by decide +kernel
theorem d40_9 : decode k40 9 = .ok (.aload_n 0, 1) := by decide +kernel
theorem d40_10 : decode k40 10 = .ok (.arraylength, 1) := by decide +kernel
theorem d40_11 : decode k40 11 = .ok (.if_icmp .ge 18, 3) := by decide +kernel
theorem d40_14 : decode k40 14 = .ok (.aload_n 1, 1) := by decide +kernel
theorem d40_15 : decode k40 15 = .ok (.iload_n 2, 1) := by decide +kernel
theorem d40_16 : decode k40 16 = .ok (.aload_n 0, 1) := by decide +kernel
theorem d40_17 : decode k40 17 = .ok (.iload_n 2, 1) := by decide +kernel
theorem d40_18 : decode k40 18 = .ok (.aaload, 1) := by decide +kernel
theorem d40_19 : decode k40 19 = .ok (.invokestatic 37, 3) := by decide +kernel
theorem d40_22 : decode k40 22 = .ok (.aastore, 1) := by decide +kernel
theorem d40_23 : decode k40 23 = .ok (.iinc 2 1, 3) := by decide +kernel
theorem d40_26 : decode k40 26 = .ok (.goto (-18), 3) := by decide +kernel
theorem d40_29 : decode k40 29 = .ok (.new 12, 3) := by decide +kernel
theorem d40_32 : decode k40 32 = .ok (.dup, 1) := by decide +kernel
theorem d40_33 : decode k40 33 = .ok (.aload_n 1, 1) := by decide +kernel
theorem d40_34 : decode k40 34 = .ok (.iconst 0, 1) := by decide +kernel
theorem d40_35 : decode k40 35 = .ok (.invokespecial 43, 3) := by decide +kernel
theorem d40_38 : decode k40 38 = .ok (.areturn, 1) := by decide +kernel
theorem pn13 : plainName "java/util/ImmutableCollections" = true := by first | (simp [plainName, overriddenIn]; done) | decide +kernel
theorem ef_lf3_10 (m : MethodId) (r0 : Addr) : entryFrame m #[(.ref r0)] 3 = mkF m 0 #[oR r0, oU, oU] [] := by first | (simp [entryFrame, mkF, argsToLocals, Value.category]; done) | rfl
def Q_lf3_10 (Z : State) (r0 : Addr) (k0 : ClassId) (x0 : Addr) (x1 : Addr) (x2 : Addr) (h0 : Heap) (n0 : Nat) (v : Option Value) (h : Heap) (L : List Loc) : Prop := ∃ LL : Addr, ∃ A : Addr, ∃ kA : ClassId, v = some (.ref LL) ∧ Fr n0 L ∧ (Keep h0 h []) ∧ (h0.size ≤ LL) ∧ (h0.size ≤ A) ∧ (Exa Z h LL kLN) ∧ (Fld Z h LL kLN "elements" kOA (.ref A)) ∧ (Fld Z h LL kLN "allowNulls" "Z" (.int 0)) ∧ (Arv Z h A kA (.object kOB) (3 : Int32) [(.ref x0), (.ref x1), (.ref x2)] .null) ∧ (Exa Z h A kOA)
set_option maxRecDepth 65536 in
set_option maxHeartbeats 40000000 in
theorem rm_lf3_10 (l : Launch) (Z : State) (a0 : Array Value) (hw : own_HW Z a0) (ws : List Jvm.Cond) (r0 : Addr) (k0 : ClassId) (x0 : Addr) (x1 : Addr) (x2 : Addr) (h0 : Heap) (n0 : Nat) (Z0 : n0 ≤ h0.size) (V_r0 : Arv Z h0 r0 k0 (.object kOB) (3 : Int32) [(.ref x0), (.ref x1), (.ref x2)] .null) (E_r0 : Exa Z h0 r0 kOA) (I_x0 : Ins Z h0 x0 kOB true) (I_x1 : Ins Z h0 x1 kOB true) (I_x2 : Ins Z h0 x2 kOB true) :
    MetFree l (⟨"java/util/ImmutableCollections", "listFromArray", "([Ljava/lang/Object;)Ljava/util/List;"⟩ : MethodName) (head1 (Jvm.Cond.code (⟨"java/util/ImmutableCollections", "listFromArray", "([Ljava/lang/Object;)Ljava/util/List;"⟩ : MethodName) jdk_56_method_4_code 3 (some (.object "java/util/List")) :: ws) ({ frames := 5, cells := 2, slots := 5, locals := 63 } : Room)) (fun a U => a = #[(.ref r0)] ∧ Z.Warmed39 U.vm ∧ U.heap = h0) (fun _ _ _ _ _ => True) (fun _ U o U' => ∃ v L, o = .returned v ∧ Q_lf3_10 Z r0 k0 x0 x1 x2 h0 n0 v U'.heap L ∧ FrameEnd U o U' L ({ frames := 5, cells := 2, slots := 5, locals := 63 } : Room).cells ({ frames := 5, cells := 2, slots := 5, locals := 63 } : Room).slots) := by
  refine MetFree.of_bodySF (plainFor_of_name pn13) hisR ?_
  intro p e s m args below meth c s₁ Bd hml0 hP hK
  obtain ⟨rfl, hZ, hh⟩ := hP
  have hx := Bd.exec
  have hby := Bd.bytes
  have hml : c.maxLocals = 3 := hml0
  have hown : s.vm.findClass "java/util/ImmutableCollections" = some m.cls := findClass_of_methodNamed Bd.named
  have hnm := (name_of_methodNamed Bd.named Bd.method).1
  have X0 : Stand p l e ({ frames := 5, cells := 2, slots := 5, locals := 63 } : Room) s m #[(.ref r0)] below meth c s₁ [] 0 0 := Stand.of_body Bd
  have e0 : s₁.heap = h0 := by rw [← hh, Bd.state]; rfl
  have N0 := Fr.nil n0
  have pre0 : ∀ t, Steps p.tables e below (s₁.setTop (mkF m 0 #[oR r0, oU, oU] [])) t → Steps p.tables e below (s₁.setTop (entryFrame m #[(.ref r0)] 3)) t := fun t k => castTop (ef_lf3_10 m r0) k
  obtain ⟨cl101, Ar101, qk101, Sz101, Nz101, Hh101, Gg101⟩ := id V_r0
  obtain ⟨T102, h102, k102, X102, e102, E102, A102, Ea102, O102, st102⟩ := newRE X0 hx hZ hown (own_w hw 271 rfl) (own_w hw 85 rfl) e0 (g := (mkF m 2 #[oR r0, oU, oU] [(.int 3)])) rfl (hb hby d40_2) rfl (by decide) (cap := 3) (by decide) (by decide) (by decide) (by decide) (ad := kOA) (by decide)
  obtain ⟨b102, g102⟩ : ∃ z, z = h0.size := ⟨_, rfl⟩
  rw [← g102] at A102 Ea102 st102
  have g_b102 : n0 ≤ b102 := Nat.le_trans Z0 (Nat.le_of_eq g102.symm)
  have sz_b102 : h0.size ≤ b102 := Nat.le_trans (Keep.refl h0 []).1 (Nat.le_of_eq g102.symm)
  have ZZ103 : n0 ≤ h102.size := Nat.le_trans Z0 E102.1
  have KK104 : Keep h0 h102 [] := (Keep.refl h0 []).ext E102
  have V_b102 : Arv Z h102 b102 k102 (.object kOB) (3 : Int32) [.null, .null, .null] .null := (Arv.new A102 (by decide)).pad (pad_rep [] .null 3)
  obtain ⟨cl105, Ar105, qk105, Sz105, Nz105, Hh105, Gg105⟩ := id (V_r0.ext E102)
  obtain ⟨cl106, Ar106, qk106, Sz106, Nz106, Hh106, Gg106⟩ := id (V_r0.ext E102)
  have hin107 : ¬ ((0 : Int32) < 0 ∨ cl106.slots.size ≤ ((0 : Int32)).toNatClampNeg) := inb_of Sz106 ⟨by decide, by decide⟩
  have hat107 : cl106.slots[((0 : Int32)).toNatClampNeg]? = some (.ref x0) := Has.at Hh106 hin107 rfl
  obtain ⟨_, T108, L108, X108, hQ108, st108⟩ := own_cS X102 hx hZ hw hown (W := 2) (rmm41 l Z a0 hw [] x0 h102 n0 ZZ103 ) (by decide) (by decide) (by decide) 272 rfl 273 rfl 111 rfl 274 rfl e102 (g := (mkF m 19 #[oR r0, oR b102, oI 0] [(.ref x0), (.int 0), (.ref b102)])) rfl (by rw [hml]; rfl) (argsL := [(.ref x0)]) (rest := [(.int 0), (.ref b102)]) (lenOf pd10 rfl) rfl (Nat.le_of_eq rfl) (hb hby d40_19) rfl (cN := 1) rfl (by decide) (sN := 3) rfl (by decide)
  obtain ⟨rfl, Nq108, P108_0⟩ := hQ108
  have N108 := Fr.app N0 Nq108
  obtain ⟨cl109, Ar109, qk109, Sz109, Nz109, Hh109, Gg109⟩ := id V_b102
  have hin110 : ¬ ((0 : Int32) < 0 ∨ cl109.slots.size ≤ ((0 : Int32)).toNatClampNeg) := inb_of Sz109 ⟨by decide, by decide⟩
  obtain ⟨T111, h111, X111, e111, W111, st111⟩ := stR X108 hx hZ P108_0 Ar109 (j := (0 : Int32)) hin110 rfl (Sto.ofV Ar109 qk109 O102 (I_x0.ext E102)) (g := (mkF m 22 #[oR r0, oR b102, oI 0] [(.ref x0), (.int 0), (.ref b102)])) rfl rfl (hb hby d40_22)
  have Va111 := Arv.set Ar109 qk109 Sz109 Nz109 Hh109 Gg109 rfl W111 0 rfl (Nat.le_of_ble_eq_true rfl)
  have N111 := Fr.snoc X111 N108 g_b102
  have ZZ112 : n0 ≤ h111.size := Nat.le_trans ZZ103 (Nat.le_of_eq W111.size.symm)
  have KK113 : Keep h0 h111 [] := KK104.wr W111 (Or.inr sz_b102)
  have Fc114 := (V_r0.keep KK113 nin0)
  obtain ⟨cl115, Ar115, qk115, Sz115, Nz115, Hh115, Gg115⟩ := id Fc114
  have hin116 : ¬ ((1 : Int32) < 0 ∨ cl115.slots.size ≤ ((1 : Int32)).toNatClampNeg) := inb_of Sz115 ⟨by decide, by decide⟩
  have hat116 : cl115.slots[((1 : Int32)).toNatClampNeg]? = some (.ref x1) := Has.at Hh115 hin116 rfl
  obtain ⟨_, T117, L117, X117, hQ117, st117⟩ := own_cS X111 hx hZ hw hown (W := 2) (rmm41 l Z a0 hw [] x1 h111 n0 ZZ112 ) (by decide) (by decide) (by decide) 272 rfl 273 rfl 111 rfl 274 rfl e111 (g := (mkF m 19 #[oR r0, oR b102, oI 1] [(.ref x1), (.int 1), (.ref b102)])) rfl (by rw [hml]; rfl) (argsL := [(.ref x1)]) (rest := [(.int 1), (.ref b102)]) (lenOf pd10 rfl) rfl (Nat.le_of_eq rfl) (hb hby d40_19) rfl (cN := 1) rfl (by decide) (sN := 3) rfl (by decide)
  obtain ⟨rfl, Nq117, P117_0⟩ := hQ117
  have N117 := Fr.app N111 Nq117
  obtain ⟨cl118, Ar118, qk118, Sz118, Nz118, Hh118, Gg118⟩ := id Va111
  have hin119 : ¬ ((1 : Int32) < 0 ∨ cl118.slots.size ≤ ((1 : Int32)).toNatClampNeg) := inb_of Sz118 ⟨by decide, by decide⟩
  have Fc120 := (own_insKeep I_x1 KK113)
  obtain ⟨T121, h121, X121, e121, W121, st121⟩ := stR X117 hx hZ P117_0 Ar118 (j := (1 : Int32)) hin119 rfl (Sto.ofV Ar118 qk118 O102 Fc120) (g := (mkF m 22 #[oR r0, oR b102, oI 1] [(.ref x1), (.int 1), (.ref b102)])) rfl rfl (hb hby d40_22)
  have Va121 := Arv.set Ar118 qk118 Sz118 Nz118 Hh118 Gg118 rfl W121 1 rfl (Nat.le_of_ble_eq_true rfl)
  have N121 := Fr.snoc X121 N117 g_b102
  have ZZ122 : n0 ≤ h121.size := Nat.le_trans ZZ112 (Nat.le_of_eq W121.size.symm)
  have KK123 : Keep h0 h121 [] := KK113.wr W121 (Or.inr sz_b102)
  have Fc124 := (V_r0.keep KK123 nin0)
  obtain ⟨cl125, Ar125, qk125, Sz125, Nz125, Hh125, Gg125⟩ := id Fc124
  have hin126 : ¬ ((2 : Int32) < 0 ∨ cl125.slots.size ≤ ((2 : Int32)).toNatClampNeg) := inb_of Sz125 ⟨by decide, by decide⟩
  have hat126 : cl125.slots[((2 : Int32)).toNatClampNeg]? = some (.ref x2) := Has.at Hh125 hin126 rfl
  obtain ⟨_, T127, L127, X127, hQ127, st127⟩ := own_cS X121 hx hZ hw hown (W := 2) (rmm41 l Z a0 hw [] x2 h121 n0 ZZ122 ) (by decide) (by decide) (by decide) 272 rfl 273 rfl 111 rfl 274 rfl e121 (g := (mkF m 19 #[oR r0, oR b102, oI 2] [(.ref x2), (.int 2), (.ref b102)])) rfl (by rw [hml]; rfl) (argsL := [(.ref x2)]) (rest := [(.int 2), (.ref b102)]) (lenOf pd10 rfl) rfl (Nat.le_of_eq rfl) (hb hby d40_19) rfl (cN := 1) rfl (by decide) (sN := 3) rfl (by decide)
  obtain ⟨rfl, Nq127, P127_0⟩ := hQ127
  have N127 := Fr.app N121 Nq127
  obtain ⟨cl128, Ar128, qk128, Sz128, Nz128, Hh128, Gg128⟩ := id Va121
  have hin129 : ¬ ((2 : Int32) < 0 ∨ cl128.slots.size ≤ ((2 : Int32)).toNatClampNeg) := inb_of Sz128 ⟨by decide, by decide⟩
  have Fc130 := (own_insKeep I_x2 KK123)
  obtain ⟨T131, h131, X131, e131, W131, st131⟩ := stR X127 hx hZ P127_0 Ar128 (j := (2 : Int32)) hin129 rfl (Sto.ofV Ar128 qk128 O102 Fc130) (g := (mkF m 22 #[oR r0, oR b102, oI 2] [(.ref x2), (.int 2), (.ref b102)])) rfl rfl (hb hby d40_22)
  have Va131 := Arv.set Ar128 qk128 Sz128 Nz128 Hh128 Gg128 rfl W131 2 rfl (Nat.le_of_ble_eq_true rfl)
  have N131 := Fr.snoc X131 N127 g_b102
  have ZZ132 : n0 ≤ h131.size := Nat.le_trans ZZ122 (Nat.le_of_eq W131.size.symm)
  have KK133 : Keep h0 h131 [] := KK123.wr W131 (Or.inr sz_b102)
  have Fc134 := (V_r0.keep KK133 nin0)
  obtain ⟨cl135, Ar135, qk135, Sz135, Nz135, Hh135, Gg135⟩ := id Fc134
  obtain ⟨T136, h136, X136, e136, E136, A136, D136, -, st136⟩ := newO X131 hx hZ hown (own_w hw 229 rfl) (own_w hw 275 rfl) (own_w hw 276 rfl) e131 (g := (mkF m 29 #[oR r0, oR b102, oI 3] [])) rfl (hb hby d40_29) (by decide) (by decide)
  obtain ⟨b136, g136⟩ : ∃ z, z = h131.size := ⟨_, rfl⟩
  rw [← g136] at A136 D136 st136
  have g_b136 : n0 ≤ b136 := Nat.le_trans ZZ132 (Nat.le_of_eq g136.symm)
  have sz_b136 : h0.size ≤ b136 := Nat.le_trans KK133.1 (Nat.le_of_eq g136.symm)
  have ZZ137 : n0 ≤ h136.size := Nat.le_trans ZZ132 E136.1
  have KK138 : Keep h0 h136 [] := KK133.ext E136
  have F_elements_b136 : Fld Z h136 b136 kLN "elements" kOA .null := D136 (Or.inr (own_w hw 296 rfl)) (ty := (.array (.object kOB))) (by decide)
  have F_allowNulls_b136 : Fld Z h136 b136 kLN "allowNulls" "Z" (.int 0) := D136 (Or.inr (own_w hw 298 rfl)) (ty := .boolean) (by decide)
  obtain ⟨_, _, ⟨T139, L139, k139, n139⟩, -, X139, ⟨Lc139, hQ139, l139, y139, z139⟩, st139⟩ := own_specialNest X136 hx (y := (⟨kLN, "<init>", "([Ljava/lang/Object;Z)V"⟩ : MethodName)) rfl hown (own_mvM hZ (own_w hw 277 rfl)) (mvT hZ (own_w hw 278 rfl)) (mvT hZ (own_w hw 280 rfl)) (by decide) (backOf (W := 1) (rmm42 l Z a0 hw [] b136 b102 .null (.int 0) h136 n0 ZZ137 A136 g_b136 F_elements_b136 F_allowNulls_b136) hZ (own_w hw 280 rfl) (own_w hw 276 rfl) (by decide) (by decide)) (g := (mkF m 35 #[oR r0, oR b102, oI 3] [(.int 0), (.ref b102), (.ref b136), (.ref b136)])) rfl (by rw [hml]; rfl) (Steps.refl _) (a := b136) (argsL := [(.ref b102), (.int 0)]) (rest := [(.ref b136)]) (lenOf pd13 rfl) rfl (by show 2 * 0 + _ ≤ _; exact Nat.le_of_eq rfl) (hb hby d40_35) (fun _ _ => ⟨rfl, e136, (by decide : 2 + 0 ≤ _), (by decide : 5 + 0 ≤ _)⟩)
  dsimp only [Pt.U, Pt.locs, Pt.cells, Pt.slots] at X139 l139 y139 z139 st139 hQ139
  subst l139 y139 z139
  obtain ⟨rfl, Nq139, P139_0, P139_1, P139_2⟩ := hQ139
  have N139 := Fr.app N131 Nq139
  have ZZ140 : n0 ≤ T139.heap.size := Nat.le_trans ZZ137 P139_0.1
  have KK141 : Keep h0 T139.heap [] := Keep.trans KK138 P139_0 (allS (Or.inr sz_b136) all0)
  have nq142 : b102 ≠ b136 := (Nat.ne_of_lt (Nat.lt_of_lt_of_le Va131.lt (Nat.le_of_eq g136.symm)))
  obtain ⟨fs, hr, hrun, hended, hW, hsame⟩ := X139.leave (v := some (.ref b136)) (fun h => by rw [Bd.returns] at h; cases h)
  refine ⟨_, _, pre0 _ ?_, hrun, hended, _, _, rfl, ?_, ⟨_, rfl⟩, hW, hsame.mono (by decide) (by decide)⟩
  · show own_S p e below s₁ m 0 #[oR r0, oU, oU] [] _
    refine XS.aloadN X0.here hx rfl (hb hby d40_0) rfl rfl ?_
    show own_S p e below s₁ m 1 _ [(.ref r0)] _
    refine X0.arraylength hx (by rw [e0]; exact Ar101.1) (State.isArrayOf_alike hZ.alike Ar101.2.1) (g := (mkF m 1 #[oR r0, oU, oU] [(.ref r0)])) rfl rfl (hb hby d40_1) _ ?_
    rw [len_of Sz101 Nz101]
    show own_S p e below s₁ m 2 _ [(.int 3)] _
    refine st102 _ ?_
    show own_S p e below T102 m 5 _ [(.ref b102)] _
    refine XS.astoreN X102.here hx rfl (hb hby d40_5) rfl rfl (l' := #[oR r0, oR b102, oU]) rfl ?_
    refine XS.iconst X102.here hx rfl (hb hby d40_6) ?_
    refine XS.istoreN X102.here hx rfl (hb hby d40_7) rfl (l' := #[oR r0, oR b102, oI 0]) rfl ?_
    refine XS.iloadN X102.here hx rfl (hb hby d40_8) rfl ?_
    show own_S p e below T102 m 9 _ [(.int 0)] _
    refine XS.aloadN X102.here hx rfl (hb hby d40_9) rfl rfl ?_
    show own_S p e below T102 m 10 _ [(.ref r0), (.int 0)] _
    refine X102.arraylength hx (by rw [e102]; exact Ar105.1) (State.isArrayOf_alike hZ.alike Ar105.2.1) (g := (mkF m 10 #[oR r0, oR b102, oI 0] [(.ref r0), (.int 0)])) rfl rfl (hb hby d40_10) _ ?_
    rw [len_of Sz105 Nz105]
    show own_S p e below T102 m 11 _ [(.int 3), (.int 0)] _
    refine XS.icmpNo X102.here hx rfl (hb hby d40_11) rfl (tlt (by decide : (0 : Int32) < (3 : Int32))).2.1 ?_
    refine XS.aloadN X102.here hx rfl (hb hby d40_14) rfl rfl ?_
    refine XS.iloadN X102.here hx rfl (hb hby d40_15) rfl ?_
    refine XS.aloadN X102.here hx rfl (hb hby d40_16) rfl rfl ?_
    show own_S p e below T102 m 17 #[oR r0, oR b102, oI 0] [(.ref r0), (.int 0), (.ref b102)] _
    refine XS.iloadN X102.here hx rfl (hb hby d40_17) rfl ?_
    show own_S p e below T102 m 18 _ [(.int 0), (.ref r0), (.int 0), (.ref b102)] _
    refine X102.aaload hx (j := (0 : Int32)) (v := (.ref x0)) (by rw [e102]; exact Ar106.1) (State.isArrayOf_alike hZ.alike Ar106.2.1) rfl Ar106.2.2 hin107 hat107 (g := (mkF m 18 #[oR r0, oR b102, oI 0] [(.int 0), (.ref r0), (.int 0), (.ref b102)])) rfl rfl (hb hby d40_18) _ ?_
    show own_S p e below T102 m 19 _ [(.ref x0), (.int 0), (.ref b102)] _
    refine st108.trans ?_
    show own_S p e below T108 m 22 _ [(.ref x0), (.int 0), (.ref b102)] _
    refine st111 _ ?_
    show own_S p e below T111 m 23 _ [] _
    refine XS.iinc X111.here hx rfl (hb hby d40_23) rfl (l' := #[oR r0, oR b102, oI 1]) rfl ?_
    refine XS.goto X111.here hx rfl (pc0 := 26) (pc' := 8) rfl (hb hby d40_26) (by decide) (by decide) ?_
    refine XS.iloadN X111.here hx rfl (hb hby d40_8) rfl ?_
    refine XS.aloadN X111.here hx rfl (hb hby d40_9) rfl rfl ?_
    show own_S p e below T111 m 10 _ [(.ref r0), (.int 1)] _
    refine X111.arraylength hx (by rw [e111]; exact Ar115.1) (State.isArrayOf_alike hZ.alike Ar115.2.1) (g := (mkF m 10 #[oR r0, oR b102, oI 1] [(.ref r0), (.int 1)])) rfl rfl (hb hby d40_10) _ ?_
    rw [len_of Sz115 Nz115]
    show own_S p e below T111 m 11 _ [(.int 3), (.int 1)] _
    refine XS.icmpNo X111.here hx rfl (hb hby d40_11) rfl (tlt (by decide : (1 : Int32) < (3 : Int32))).2.1 ?_
    refine XS.aloadN X111.here hx rfl (hb hby d40_14) rfl rfl ?_
    refine XS.iloadN X111.here hx rfl (hb hby d40_15) rfl ?_
    refine XS.aloadN X111.here hx rfl (hb hby d40_16) rfl rfl ?_
    show own_S p e below T111 m 17 _ [(.ref r0), (.int 1), (.ref b102)] _
    refine XS.iloadN X111.here hx rfl (hb hby d40_17) rfl ?_
    show own_S p e below T111 m 18 _ [(.int 1), (.ref r0), (.int 1), (.ref b102)] _
    refine X111.aaload hx (j := (1 : Int32)) (v := (.ref x1)) (by rw [e111]; exact Ar115.1) (State.isArrayOf_alike hZ.alike Ar115.2.1) rfl Ar115.2.2 hin116 hat116 (g := (mkF m 18 #[oR r0, oR b102, oI 1] [(.int 1), (.ref r0), (.int 1), (.ref b102)])) rfl rfl (hb hby d40_18) _ ?_
    show own_S p e below T111 m 19 _ [(.ref x1), (.int 1), (.ref b102)] _
    refine st117.trans ?_
    show own_S p e below T117 m 22 _ [(.ref x1), (.int 1), (.ref b102)] _
    refine st121 _ ?_
    show own_S p e below T121 m 23 _ [] _
    refine XS.iinc X121.here hx rfl (hb hby d40_23) rfl (l' := #[oR r0, oR b102, oI 2]) rfl ?_
    refine XS.goto X121.here hx rfl (pc0 := 26) (pc' := 8) rfl (hb hby d40_26) (by decide) (by decide) ?_
    refine XS.iloadN X121.here hx rfl (hb hby d40_8) rfl ?_
    refine XS.aloadN X121.here hx rfl (hb hby d40_9) rfl rfl ?_
    show own_S p e below T121 m 10 _ [(.ref r0), (.int 2)] _
    refine X121.arraylength hx (by rw [e121]; exact Ar125.1) (State.isArrayOf_alike hZ.alike Ar125.2.1) (g := (mkF m 10 #[oR r0, oR b102, oI 2] [(.ref r0), (.int 2)])) rfl rfl (hb hby d40_10) _ ?_
    rw [len_of Sz125 Nz125]
    show own_S p e below T121 m 11 _ [(.int 3), (.int 2)] _
    refine XS.icmpNo X121.here hx rfl (hb hby d40_11) rfl (tlt (by decide : (2 : Int32) < (3 : Int32))).2.1 ?_
    refine XS.aloadN X121.here hx rfl (hb hby d40_14) rfl rfl ?_
    refine XS.iloadN X121.here hx rfl (hb hby d40_15) rfl ?_
    refine XS.aloadN X121.here hx rfl (hb hby d40_16) rfl rfl ?_
    show own_S p e below T121 m 17 _ [(.ref r0), (.int 2), (.ref b102)] _
    refine XS.iloadN X121.here hx rfl (hb hby d40_17) rfl ?_
    show own_S p e below T121 m 18 _ [(.int 2), (.ref r0), (.int 2), (.ref b102)] _
    refine X121.aaload hx (j := (2 : Int32)) (v := (.ref x2)) (by rw [e121]; exact Ar125.1) (State.isArrayOf_alike hZ.alike Ar125.2.1) rfl Ar125.2.2 hin126 hat126 (g := (mkF m 18 #[oR r0, oR b102, oI 2] [(.int 2), (.ref r0), (.int 2), (.ref b102)])) rfl rfl (hb hby d40_18) _ ?_
    show own_S p e below T121 m 19 _ [(.ref x2), (.int 2), (.ref b102)] _
    refine st127.trans ?_
    show own_S p e below T127 m 22 _ [(.ref x2), (.int 2), (.ref b102)] _
    refine st131 _ ?_
    show own_S p e below T131 m 23 _ [] _
    refine XS.iinc X131.here hx rfl (hb hby d40_23) rfl (l' := #[oR r0, oR b102, oI 3]) rfl ?_
    refine XS.goto X131.here hx rfl (pc0 := 26) (pc' := 8) rfl (hb hby d40_26) (by decide) (by decide) ?_
    refine XS.iloadN X131.here hx rfl (hb hby d40_8) rfl ?_
    refine XS.aloadN X131.here hx rfl (hb hby d40_9) rfl rfl ?_
    show own_S p e below T131 m 10 _ [(.ref r0), (.int 3)] _
    refine X131.arraylength hx (by rw [e131]; exact Ar135.1) (State.isArrayOf_alike hZ.alike Ar135.2.1) (g := (mkF m 10 #[oR r0, oR b102, oI 3] [(.ref r0), (.int 3)])) rfl rfl (hb hby d40_10) _ ?_
    rw [len_of Sz135 Nz135]
    show own_S p e below T131 m 11 _ [(.int 3), (.int 3)] _
    refine XS.icmpYes X131.here hx rfl (pc0 := 11) (pc' := 29) rfl (hb hby d40_11) rfl (flt (by decide : ¬ ((3 : Int32) < (3 : Int32)))).2.1 (by decide) (by decide) ?_
    show own_S p e below T131 m 29 _ [] _
    refine st136 _ ?_
    show own_S p e below T136 m 32 _ [(.ref b136)] _
    refine XS.dup X136.here hx rfl (hb hby d40_32) rfl rfl ?_
    refine XS.aloadN X136.here hx rfl (hb hby d40_33) rfl rfl ?_
    refine XS.iconst X136.here hx rfl (hb hby d40_34) ?_
    show own_S p e below T136 m 35 _ [(.int 0), (.ref b102), (.ref b136), (.ref b136)] _
    refine st139.trans ?_
    show own_S p e below T139 m 38 _ [(.ref b136)] _
    exact retOut X139 hx Bd.returns rfl (Or.inr (Or.inr (Or.inr (Or.inr ⟨rfl, rfl, rfl⟩)))) (hb hby d40_38) hr
  · show Q_lf3_10 Z r0 k0 x0 x1 x2 h0 n0 _ T139.heap _
    exact ⟨b136, b102, k102, rfl, N139, KK141, sz_b136, sz_b102, (A136.keep P139_0), P139_1, P139_2, ((Va131.ext E136).keep P139_0 (ninS nq142 nin0)), (((((Ea102.wr W111).wr W121).wr W131).ext E136).keep P139_0)⟩
theorem pd14 : parseMethodDescriptor "([Ljava/lang/Object;)Ljava/util/List;" = some ⟨[(.array (.object kOB))], some (.object "java/util/List")⟩ := by decide +kernel
theorem d39_0 : decode k39 0 = .ok (.aload_n 0, 1) := by decide +kernel
theorem d39_1 : decode k39 1 = .ok (.arraylength, 1) := by decide +kernel
theorem d39_2 : decode k39 2 = .ok (.tableswitch 57 0 2 #[26, 32, 43], 26) := by decide +kernel
theorem d39_59 : decode k39 59 = .ok (.aload_n 0, 1) := by decide +kernel
theorem d39_60 : decode k39 60 = .ok (.invokestatic 109, 3) := by decide +kernel
theorem d39_63 : decode k39 63 = .ok (.areturn, 1) := by decide +kernel
theorem pn14 : plainName "java/util/List" = true := by first | (simp [plainName, overriddenIn]; done) | decide +kernel
theorem ef_of3_10 (m : MethodId) (r0 : Addr) : entryFrame m #[(.ref r0)] 2 = mkF m 0 #[oR r0, oU] [] := by first | (simp [entryFrame, mkF, argsToLocals, Value.category]; done) | rfl
def Q_of3_10 (Z : State) (r0 : Addr) (k0 : ClassId) (x0 : Addr) (x1 : Addr) (x2 : Addr) (h0 : Heap) (n0 : Nat) (v : Option Value) (h : Heap) (L : List Loc) : Prop := ∃ LL : Addr, ∃ A : Addr, ∃ kA : ClassId, v = some (.ref LL) ∧ Fr n0 L ∧ (Keep h0 h []) ∧ (h0.size ≤ LL) ∧ (h0.size ≤ A) ∧ (Exa Z h LL kLN) ∧ (Fld Z h LL kLN "elements" kOA (.ref A)) ∧ (Fld Z h LL kLN "allowNulls" "Z" (.int 0)) ∧ (Arv Z h A kA (.object kOB) (3 : Int32) [(.ref x0), (.ref x1), (.ref x2)] .null) ∧ (Exa Z h A kOA)
set_option maxRecDepth 65536 in
set_option maxHeartbeats 40000000 in
theorem rm_of3_10 (l : Launch) (Z : State) (a0 : Array Value) (hw : own_HW Z a0) (ws : List Jvm.Cond) (r0 : Addr) (k0 : ClassId) (x0 : Addr) (x1 : Addr) (x2 : Addr) (h0 : Heap) (n0 : Nat) (Z0 : n0 ≤ h0.size) (V_r0 : Arv Z h0 r0 k0 (.object kOB) (3 : Int32) [(.ref x0), (.ref x1), (.ref x2)] .null) (E_r0 : Exa Z h0 r0 kOA) (I_x0 : Ins Z h0 x0 kOB true) (I_x1 : Ins Z h0 x1 kOB true) (I_x2 : Ins Z h0 x2 kOB true) :
    MetFree l (⟨"java/util/List", "of", "([Ljava/lang/Object;)Ljava/util/List;"⟩ : MethodName) (head1 (Jvm.Cond.code (⟨"java/util/List", "of", "([Ljava/lang/Object;)Ljava/util/List;"⟩ : MethodName) jdk_40_method_47_code 2 (some (.object "java/util/List")) :: ws) ({ frames := 6, cells := 2, slots := 5, locals := 77 } : Room)) (fun a U => a = #[(.ref r0)] ∧ Z.Warmed39 U.vm ∧ U.heap = h0) (fun _ _ _ _ _ => True) (fun _ U o U' => ∃ v L, o = .returned v ∧ Q_of3_10 Z r0 k0 x0 x1 x2 h0 n0 v U'.heap L ∧ FrameEnd U o U' L ({ frames := 6, cells := 2, slots := 5, locals := 77 } : Room).cells ({ frames := 6, cells := 2, slots := 5, locals := 77 } : Room).slots) := by
  refine MetFree.of_bodySF (plainFor_of_name pn14) hisR ?_
  intro p e s m args below meth c s₁ Bd hml0 hP hK
  obtain ⟨rfl, hZ, hh⟩ := hP
  have hx := Bd.exec
  have hby := Bd.bytes
  have hml : c.maxLocals = 2 := hml0
  have hown : s.vm.findClass "java/util/List" = some m.cls := findClass_of_methodNamed Bd.named
  have hnm := (name_of_methodNamed Bd.named Bd.method).1
  have X0 : Stand p l e ({ frames := 6, cells := 2, slots := 5, locals := 77 } : Room) s m #[(.ref r0)] below meth c s₁ [] 0 0 := Stand.of_body Bd
  have e0 : s₁.heap = h0 := by rw [← hh, Bd.state]; rfl
  have N0 := Fr.nil n0
  have pre0 : ∀ t, Steps p.tables e below (s₁.setTop (mkF m 0 #[oR r0, oU] [])) t → Steps p.tables e below (s₁.setTop (entryFrame m #[(.ref r0)] 2)) t := fun t k => castTop (ef_of3_10 m r0) k
  obtain ⟨cl101, Ar101, qk101, Sz101, Nz101, Hh101, Gg101⟩ := id V_r0
  obtain ⟨_, T102, L102, X102, hQ102, st102⟩ := own_cS X0 hx hZ hw hown (W := 0) (rm_lf3_10 l Z a0 hw [] r0 k0 x0 x1 x2 h0 n0 Z0 V_r0 E_r0 I_x0 I_x1 I_x2) (by decide) (by decide) (by decide) 268 rfl 269 rfl 222 rfl 270 rfl e0 (g := (mkF m 60 #[oR r0, oU] [(.ref r0)])) rfl (by rw [hml]; rfl) (argsL := [(.ref r0)]) (rest := []) (lenOf pd14 rfl) rfl (Nat.le_of_eq rfl) (hb hby d39_60) rfl (cN := 2) rfl (by decide) (sN := 5) rfl (by decide)
  obtain ⟨LL_102, A_102, kA_102, rfl, Nq102, P102_0, P102_1, P102_2, P102_3, P102_4, P102_5, P102_6, P102_7⟩ := hQ102
  have N102 := Fr.app N0 Nq102
  have g_LL_102 : n0 ≤ LL_102 := Nat.le_trans Z0 P102_1
  have sz_LL_102 : h0.size ≤ LL_102 := Nat.le_trans (Keep.refl h0 []).1 P102_1
  have g_A_102 : n0 ≤ A_102 := Nat.le_trans Z0 P102_2
  have sz_A_102 : h0.size ≤ A_102 := Nat.le_trans (Keep.refl h0 []).1 P102_2
  have ZZ103 : n0 ≤ T102.heap.size := Nat.le_trans Z0 P102_0.1
  have KK104 : Keep h0 T102.heap [] := Keep.trans (Keep.refl h0 []) P102_0 all0
  obtain ⟨fs, hr, hrun, hended, hW, hsame⟩ := X102.leave (v := some (.ref LL_102)) (fun h => by rw [Bd.returns] at h; cases h)
  refine ⟨_, _, pre0 _ ?_, hrun, hended, _, _, rfl, ?_, ⟨_, rfl⟩, hW, hsame.mono (by decide) (by decide)⟩
  · show own_S p e below s₁ m 0 #[oR r0, oU] [] _
    refine XS.aloadN X0.here hx rfl (hb hby d39_0) rfl rfl ?_
    show own_S p e below s₁ m 1 _ [(.ref r0)] _
    refine X0.arraylength hx (by rw [e0]; exact Ar101.1) (State.isArrayOf_alike hZ.alike Ar101.2.1) (g := (mkF m 1 #[oR r0, oU] [(.ref r0)])) rfl rfl (hb hby d39_1) _ ?_
    rw [len_of Sz101 Nz101]
    show own_S p e below s₁ m 2 _ [(.int 3)] _
    refine XS.tswOut X0.here hx rfl (pc0 := 2) (pc' := 59) rfl (hb hby d39_2) rfl (by decide) (by decide) (by decide) ?_
    show own_S p e below s₁ m 59 _ [] _
    refine XS.aloadN X0.here hx rfl (hb hby d39_59) rfl rfl ?_
    show own_S p e below s₁ m 60 _ [(.ref r0)] _
    refine st102.trans ?_
    show own_S p e below T102 m 63 _ [(.ref LL_102)] _
    exact retOut X102 hx Bd.returns rfl (Or.inr (Or.inr (Or.inr (Or.inr ⟨rfl, rfl, rfl⟩)))) (hb hby d39_63) hr
  · show Q_of3_10 Z r0 k0 x0 x1 x2 h0 n0 _ T102.heap _
    exact ⟨LL_102, A_102, kA_102, rfl, N102, KK104, sz_LL_102, sz_A_102, P102_3, P102_4, P102_5, P102_6, P102_7⟩
theorem pd15 : parseMethodDescriptor "()Z" = some ⟨[], some .boolean⟩ := by decide +kernel
theorem d34_0 : decode k34 0 = .ok (.aload_n 0, 1) := by decide +kernel
theorem d34_1 : decode k34 1 = .ok (.instanceof 10, 3) := by decide +kernel
theorem d34_4 : decode k34 4 = .ok (.ifCond .ne 22, 3) := by decide +kernel
theorem d34_7 : decode k34 7 = .ok (.aload_n 0, 1) := by decide +kernel
theorem d34_8 : decode k34 8 = .ok (.instanceof 12, 3) := by decide +kernel
theorem d34_11 : decode k34 11 = .ok (.ifCond .eq 20, 3) := by decide +kernel
theorem d34_31 : decode k34 31 = .ok (.aload_n 0, 1) := by decide +kernel
theorem d34_32 : decode k34 32 = .ok (.invokeinterface 20 1, 5) := by decide +kernel
theorem d34_37 : decode k34 37 = .ok (.ifCond .eq 7, 3) := by decide +kernel
theorem d34_44 : decode k34 44 = .ok (.aload_n 0, 1) := by decide +kernel
theorem d34_45 : decode k34 45 = .ok (.invokeinterface 30 1, 5) := by decide +kernel
theorem d34_50 : decode k34 50 = .ok (.invokestatic 34, 3) := by decide +kernel
theorem d34_53 : decode k34 53 = .ok (.areturn, 1) := by decide +kernel
theorem ef_lc3_10 (m : MethodId) (r0 : Addr) : entryFrame m #[(.ref r0)] 2 = mkF m 0 #[oR r0, oU] [] := by first | (simp [entryFrame, mkF, argsToLocals, Value.category]; done) | rfl
def Q_lc3_10 (Z : State) (r0 : Addr) (el : Addr) (kel : ClassId) (x0 : Addr) (x1 : Addr) (x2 : Addr) (mr : Addr) (h0 : Heap) (n0 : Nat) (v : Option Value) (h : Heap) (L : List Loc) : Prop := ∃ LL : Addr, ∃ A : Addr, ∃ kA : ClassId, v = some (.ref LL) ∧ Fr n0 L ∧ (Keep h0 h []) ∧ (h0.size ≤ LL) ∧ (h0.size ≤ A) ∧ (Exa Z h LL kLN) ∧ (Fld Z h LL kLN "elements" kOA (.ref A)) ∧ (Fld Z h LL kLN "allowNulls" "Z" (.int 0)) ∧ (Arv Z h A kA (.object kOB) (3 : Int32) [(.ref x0), (.ref x1), (.ref x2)] .null) ∧ (Exa Z h A kOA)
set_option maxRecDepth 65536 in
set_option maxHeartbeats 40000000 in
theorem rm_lc3_10 (l : Launch) (Z : State) (a0 : Array Value) (hw : own_HW Z a0) (ws : List Jvm.Cond) (r0 : Addr) (el : Addr) (kel : ClassId) (x0 : Addr) (x1 : Addr) (x2 : Addr) (mr : Addr) (h0 : Heap) (n0 : Nat) (Z0 : n0 ≤ h0.size) (E_r0 : Exa Z h0 r0 kAL) (F_elementData_r0 : Fld Z h0 r0 kAL "elementData" kOA (.ref el)) (F_size_r0 : Fld Z h0 r0 kAL "size" "I" (.int 3)) (V_el : Arv Z h0 el kel (.object kOB) (10 : Int32) [(.ref x0), (.ref x1), (.ref x2), .null] .null) (E_el : Exa Z h0 el kOA) (I_x0 : Ins Z h0 x0 kOB true) (I_x1 : Ins Z h0 x1 kOB true) (I_x2 : Ins Z h0 x2 kOB true) (M_mr : own_Mi Z kOA mr) :
    MetFree l (⟨"java/util/ImmutableCollections", "listCopy", "(Ljava/util/Collection;)Ljava/util/List;"⟩ : MethodName) (head1 (Jvm.Cond.code (⟨"java/util/ImmutableCollections", "listCopy", "(Ljava/util/Collection;)Ljava/util/List;"⟩ : MethodName) jdk_56_method_3_code 2 (some (.object "java/util/List")) :: ws) ({ frames := 7, cells := 3, slots := 8, locals := 90 } : Room)) (fun a U => a = #[(.ref r0)] ∧ Z.Warmed39 U.vm ∧ U.heap = h0) (fun _ _ _ _ _ => True) (fun _ U o U' => ∃ v L, o = .returned v ∧ Q_lc3_10 Z r0 el kel x0 x1 x2 mr h0 n0 v U'.heap L ∧ FrameEnd U o U' L ({ frames := 7, cells := 3, slots := 8, locals := 90 } : Room).cells ({ frames := 7, cells := 3, slots := 8, locals := 90 } : Room).slots) := by
  refine MetFree.of_bodySF (plainFor_of_name pn13) hisR ?_
  intro p e s m args below meth c s₁ Bd hml0 hP hK
  obtain ⟨rfl, hZ, hh⟩ := hP
  have hx := Bd.exec
  have hby := Bd.bytes
  have hml : c.maxLocals = 2 := hml0
  have hown : s.vm.findClass "java/util/ImmutableCollections" = some m.cls := findClass_of_methodNamed Bd.named
  have hnm := (name_of_methodNamed Bd.named Bd.method).1
  have X0 : Stand p l e ({ frames := 7, cells := 3, slots := 8, locals := 90 } : Room) s m #[(.ref r0)] below meth c s₁ [] 0 0 := Stand.of_body Bd
  have e0 : s₁.heap = h0 := by rw [← hh, Bd.state]; rfl
  have N0 := Fr.nil n0
  have pre0 : ∀ t, Steps p.tables e below (s₁.setTop (mkF m 0 #[oR r0, oU] [])) t → Steps p.tables e below (s₁.setTop (entryFrame m #[(.ref r0)] 2)) t := fun t k => castTop (ef_lc3_10 m r0) k
  obtain ⟨T101, X101, e101, st101⟩ := instNo X0 hx hZ hown (own_w hw 224 rfl) e0 E_r0 (own_no12 hw) (g := (mkF m 1 #[oR r0, oU] [(.ref r0)])) rfl rfl (hb hby d34_1)
  obtain ⟨T102, X102, e102, st102⟩ := instNo X101 hx hZ hown (own_w hw 229 rfl) e101 E_r0 (own_noN hw) (g := (mkF m 8 #[oR r0, oU] [(.ref r0)])) rfl rfl (hb hby d34_8)
  obtain ⟨_, T103, L103, X103, hQ103, st103⟩ := own_cI X102 hx hZ hw hown (b := r0) (W := 0) (rmm18 l Z a0 hw [] r0 (3 : Int32) h0 n0 Z0 F_size_r0 (by decide)) (by decide) (by decide) (by decide) 230 rfl 231 rfl 232 rfl 233 rfl 117 rfl 118 rfl 119 rfl 234 rfl 120 rfl 2 rfl e102 E_r0 (g := (mkF m 32 #[oR r0, oU] [(.ref r0)])) rfl (by rw [hml]; rfl) (argsL := []) (rest := []) (lenOf pd15 rfl) rfl (Nat.le_of_eq rfl) (hb hby d34_32) rfl (cN := 0) rfl (by decide) (sN := 0) rfl (by decide)
  obtain ⟨rfl, Nq103, P103_0⟩ := hQ103
  have N103 := Fr.app N0 Nq103
  obtain ⟨_, T104, L104, X104, hQ104, st104⟩ := own_cI X103 hx hZ hw hown (b := r0) (W := 0) (rm_ta3_10 l Z a0 hw [] r0 el kel x0 x1 x2 mr h0 n0 Z0 E_r0 F_elementData_r0 F_size_r0 V_el E_el I_x0 I_x1 I_x2 M_mr) (by decide) (by decide) (by decide) 235 rfl 236 rfl 237 rfl 238 rfl 239 rfl 240 rfl 241 rfl 234 rfl 242 rfl 2 rfl P103_0 E_r0 (g := (mkF m 45 #[oR r0, oU] [(.ref r0)])) rfl (by rw [hml]; rfl) (argsL := []) (rest := []) (lenOf pd4 rfl) rfl (Nat.le_of_eq rfl) (hb hby d34_45) rfl (cN := 1) rfl (by decide) (sN := 3) rfl (by decide)
  obtain ⟨na_104, kna_104, rfl, Nq104, P104_0, P104_1, P104_2, P104_3⟩ := hQ104
  have N104 := Fr.app N103 Nq104
  have g_na_104 : n0 ≤ na_104 := Nat.le_trans Z0 P104_1
  have sz_na_104 : h0.size ≤ na_104 := Nat.le_trans (Keep.refl h0 []).1 P104_1
  have ZZ105 : n0 ≤ T104.heap.size := Nat.le_trans Z0 P104_0.1
  have KK106 : Keep h0 T104.heap [] := Keep.trans (Keep.refl h0 []) P104_0 all0
  have Fc107 := (own_insKeep I_x0 P104_0)
  have Fc108 := (own_insKeep I_x1 P104_0)
  have Fc109 := (own_insKeep I_x2 P104_0)
  obtain ⟨_, T110, L110, X110, hQ110, st110⟩ := own_cS X104 hx hZ hw hown (W := 0) (rm_of3_10 l Z a0 hw [] na_104 kna_104 x0 x1 x2 T104.heap n0 ZZ105 P104_2 P104_3 Fc107 Fc108 Fc109) (by decide) (by decide) (by decide) 265 rfl 266 rfl 218 rfl 267 rfl rfl (g := (mkF m 50 #[oR r0, oU] [(.ref na_104)])) rfl (by rw [hml]; rfl) (argsL := [(.ref na_104)]) (rest := []) (lenOf pd14 rfl) rfl (Nat.le_of_eq rfl) (hb hby d34_50) rfl (cN := 3) rfl (by decide) (sN := 8) rfl (by decide)
  obtain ⟨LL_110, A_110, kA_110, rfl, Nq110, P110_0, P110_1, P110_2, P110_3, P110_4, P110_5, P110_6, P110_7⟩ := hQ110
  have N110 := Fr.app N104 Nq110
  have g_LL_110 : n0 ≤ LL_110 := Nat.le_trans ZZ105 P110_1
  have sz_LL_110 : h0.size ≤ LL_110 := Nat.le_trans KK106.1 P110_1
  have g_A_110 : n0 ≤ A_110 := Nat.le_trans ZZ105 P110_2
  have sz_A_110 : h0.size ≤ A_110 := Nat.le_trans KK106.1 P110_2
  have ZZ111 : n0 ≤ T110.heap.size := Nat.le_trans ZZ105 P110_0.1
  have KK112 : Keep h0 T110.heap [] := Keep.trans KK106 P110_0 all0
  obtain ⟨fs, hr, hrun, hended, hW, hsame⟩ := X110.leave (v := some (.ref LL_110)) (fun h => by rw [Bd.returns] at h; cases h)
  refine ⟨_, _, pre0 _ ?_, hrun, hended, _, _, rfl, ?_, ⟨_, rfl⟩, hW, hsame.mono (by decide) (by decide)⟩
  · show own_S p e below s₁ m 0 #[oR r0, oU] [] _
    refine XS.aloadN X0.here hx rfl (hb hby d34_0) rfl rfl ?_
    show own_S p e below s₁ m 1 _ [(.ref r0)] _
    refine st101 _ ?_
    show own_S p e below T101 m 4 _ [(.int 0)] _
    refine XS.ifNo X101.here hx rfl (hb hby d34_4) rfl ((if0 _ _).trans (teq (by decide : (0 : Int32) = (0 : Int32))).2) ?_
    refine XS.aloadN X101.here hx rfl (hb hby d34_7) rfl rfl ?_
    show own_S p e below T101 m 8 _ [(.ref r0)] _
    refine st102 _ ?_
    show own_S p e below T102 m 11 _ [(.int 0)] _
    refine XS.ifYes X102.here hx rfl (pc0 := 11) (pc' := 31) rfl (hb hby d34_11) rfl ((if0 _ _).trans (teq (by decide : (0 : Int32) = (0 : Int32))).1) (by decide) (by decide) ?_
    refine XS.aloadN X102.here hx rfl (hb hby d34_31) rfl rfl ?_
    show own_S p e below T102 m 32 #[oR r0, oU] [(.ref r0)] _
    refine st103.trans ?_
    show own_S p e below T103 m 37 _ [(.int 0)] _
    refine XS.ifYes X103.here hx rfl (pc0 := 37) (pc' := 44) rfl (hb hby d34_37) rfl ((if0 _ _).trans (teq (by decide : (0 : Int32) = (0 : Int32))).1) (by decide) (by decide) ?_
    refine XS.aloadN X103.here hx rfl (hb hby d34_44) rfl rfl ?_
    show own_S p e below T103 m 45 _ [(.ref r0)] _
    refine st104.trans ?_
    show own_S p e below T104 m 50 _ [(.ref na_104)] _
    refine st110.trans ?_
    show own_S p e below T110 m 53 _ [(.ref LL_110)] _
    exact retOut X110 hx Bd.returns rfl (Or.inr (Or.inr (Or.inr (Or.inr ⟨rfl, rfl, rfl⟩)))) (hb hby d34_53) hr
  · show Q_lc3_10 Z r0 el kel x0 x1 x2 mr h0 n0 _ T110.heap _
    exact ⟨LL_110, A_110, kA_110, rfl, N110, KK112, sz_LL_110, sz_A_110, P110_3, P110_4, P110_5, P110_6, P110_7⟩
theorem pd16 : parseMethodDescriptor "(Ljava/util/Collection;)Ljava/util/List;" = some ⟨[(.object "java/util/Collection")], some (.object "java/util/List")⟩ := by decide +kernel
theorem d33_0 : decode jdk_40_method_48_code 0 = .ok (.aload_n 0, 1) := by decide +kernel
theorem d33_1 : decode jdk_40_method_48_code 1 = .ok (.invokestatic 112, 3) := by decide +kernel
theorem d33_4 : decode jdk_40_method_48_code 4 = .ok (.areturn, 1) := by decide +kernel
theorem ef_co3_10 (m : MethodId) (r0 : Addr) : entryFrame m #[(.ref r0)] 1 = mkF m 0 #[oR r0] [] := by first | (simp [entryFrame, mkF, argsToLocals, Value.category]; done) | rfl
def Q_co3_10 (Z : State) (r0 : Addr) (el : Addr) (kel : ClassId) (x0 : Addr) (x1 : Addr) (x2 : Addr) (mr : Addr) (h0 : Heap) (n0 : Nat) (v : Option Value) (h : Heap) (L : List Loc) : Prop := ∃ LL : Addr, ∃ A : Addr, ∃ kA : ClassId, v = some (.ref LL) ∧ Fr n0 L ∧ (Keep h0 h []) ∧ (h0.size ≤ LL) ∧ (h0.size ≤ A) ∧ (Exa Z h LL kLN) ∧ (Fld Z h LL kLN "elements" kOA (.ref A)) ∧ (Fld Z h LL kLN "allowNulls" "Z" (.int 0)) ∧ (Arv Z h A kA (.object kOB) (3 : Int32) [(.ref x0), (.ref x1), (.ref x2)] .null) ∧ (Exa Z h A kOA)
set_option maxRecDepth 65536 in
set_option maxHeartbeats 40000000 in
theorem rm_co3_10 (l : Launch) (Z : State) (a0 : Array Value) (hw : own_HW Z a0) (ws : List Jvm.Cond) (r0 : Addr) (el : Addr) (kel : ClassId) (x0 : Addr) (x1 : Addr) (x2 : Addr) (mr : Addr) (h0 : Heap) (n0 : Nat) (Z0 : n0 ≤ h0.size) (E_r0 : Exa Z h0 r0 kAL) (F_elementData_r0 : Fld Z h0 r0 kAL "elementData" kOA (.ref el)) (F_size_r0 : Fld Z h0 r0 kAL "size" "I" (.int 3)) (V_el : Arv Z h0 el kel (.object kOB) (10 : Int32) [(.ref x0), (.ref x1), (.ref x2), .null] .null) (E_el : Exa Z h0 el kOA) (I_x0 : Ins Z h0 x0 kOB true) (I_x1 : Ins Z h0 x1 kOB true) (I_x2 : Ins Z h0 x2 kOB true) (M_mr : own_Mi Z kOA mr) :
    MetFree l (⟨"java/util/List", "copyOf", "(Ljava/util/Collection;)Ljava/util/List;"⟩ : MethodName) (head1 (Jvm.Cond.code (⟨"java/util/List", "copyOf", "(Ljava/util/Collection;)Ljava/util/List;"⟩ : MethodName) jdk_40_method_48_code 1 (some (.object "java/util/List")) :: ws) ({ frames := 8, cells := 3, slots := 8, locals := 103 } : Room)) (fun a U => a = #[(.ref r0)] ∧ Z.Warmed39 U.vm ∧ U.heap = h0) (fun _ _ _ _ _ => True) (fun _ U o U' => ∃ v L, o = .returned v ∧ Q_co3_10 Z r0 el kel x0 x1 x2 mr h0 n0 v U'.heap L ∧ FrameEnd U o U' L ({ frames := 8, cells := 3, slots := 8, locals := 103 } : Room).cells ({ frames := 8, cells := 3, slots := 8, locals := 103 } : Room).slots) := by
  refine MetFree.of_bodySF (plainFor_of_name pn14) hisR ?_
  intro p e s m args below meth c s₁ Bd hml0 hP hK
  obtain ⟨rfl, hZ, hh⟩ := hP
  have hx := Bd.exec
  have hby := Bd.bytes
  have hml : c.maxLocals = 1 := hml0
  have hown : s.vm.findClass "java/util/List" = some m.cls := findClass_of_methodNamed Bd.named
  have hnm := (name_of_methodNamed Bd.named Bd.method).1
  have X0 : Stand p l e ({ frames := 8, cells := 3, slots := 8, locals := 103 } : Room) s m #[(.ref r0)] below meth c s₁ [] 0 0 := Stand.of_body Bd
  have e0 : s₁.heap = h0 := by rw [← hh, Bd.state]; rfl
  have N0 := Fr.nil n0
  have pre0 : ∀ t, Steps p.tables e below (s₁.setTop (mkF m 0 #[oR r0] [])) t → Steps p.tables e below (s₁.setTop (entryFrame m #[(.ref r0)] 1)) t := fun t k => castTop (ef_co3_10 m r0) k
  obtain ⟨_, T101, L101, X101, hQ101, st101⟩ := own_cS X0 hx hZ hw hown (W := 0) (rm_lc3_10 l Z a0 hw [] r0 el kel x0 x1 x2 mr h0 n0 Z0 E_r0 F_elementData_r0 F_size_r0 V_el E_el I_x0 I_x1 I_x2 M_mr) (by decide) (by decide) (by decide) 220 rfl 221 rfl 222 rfl 223 rfl e0 (g := (mkF m 1 #[oR r0] [(.ref r0)])) rfl (by rw [hml]; rfl) (argsL := [(.ref r0)]) (rest := []) (lenOf pd16 rfl) rfl (Nat.le_of_eq rfl) (hb hby d33_1) rfl (cN := 3) rfl (by decide) (sN := 8) rfl (by decide)
  obtain ⟨LL_101, A_101, kA_101, rfl, Nq101, P101_0, P101_1, P101_2, P101_3, P101_4, P101_5, P101_6, P101_7⟩ := hQ101
  have N101 := Fr.app N0 Nq101
  have g_LL_101 : n0 ≤ LL_101 := Nat.le_trans Z0 P101_1
  have sz_LL_101 : h0.size ≤ LL_101 := Nat.le_trans (Keep.refl h0 []).1 P101_1
  have g_A_101 : n0 ≤ A_101 := Nat.le_trans Z0 P101_2
  have sz_A_101 : h0.size ≤ A_101 := Nat.le_trans (Keep.refl h0 []).1 P101_2
  have ZZ102 : n0 ≤ T101.heap.size := Nat.le_trans Z0 P101_0.1
  have KK103 : Keep h0 T101.heap [] := Keep.trans (Keep.refl h0 []) P101_0 all0
  obtain ⟨fs, hr, hrun, hended, hW, hsame⟩ := X101.leave (v := some (.ref LL_101)) (fun h => by rw [Bd.returns] at h; cases h)
  refine ⟨_, _, pre0 _ ?_, hrun, hended, _, _, rfl, ?_, ⟨_, rfl⟩, hW, hsame.mono (by decide) (by decide)⟩
  · show own_S p e below s₁ m 0 #[oR r0] [] _
    refine XS.aloadN X0.here hx rfl (hb hby d33_0) rfl rfl ?_
    show own_S p e below s₁ m 1 _ [(.ref r0)] _
    refine st101.trans ?_
    show own_S p e below T101 m 4 _ [(.ref LL_101)] _
    exact retOut X101 hx Bd.returns rfl (Or.inr (Or.inr (Or.inr (Or.inr ⟨rfl, rfl, rfl⟩)))) (hb hby d33_4) hr
  · show Q_co3_10 Z r0 el kel x0 x1 x2 mr h0 n0 _ T101.heap _
    exact ⟨LL_101, A_101, kA_101, rfl, N101, KK103, sz_LL_101, sz_A_101, P101_3, P101_4, P101_5, P101_6, P101_7⟩
theorem d38_5 : decode k38 5 = .ok (.iload_n 0, 1) := by decide +kernel
theorem d38_6 : decode k38 6 = .ok (.goto 4, 3) := by decide +kernel
theorem ef_mi2_2 (m : MethodId)  : entryFrame m #[(.int 2), (.int 2)] 2 = mkF m 0 #[oI 2, oI 2] [] := by first | (simp [entryFrame, mkF, argsToLocals, Value.category]; done) | rfl
def Q_mi2_2 (Z : State)  (h0 : Heap) (n0 : Nat) (v : Option Value) (h : Heap) (L : List Loc) : Prop := v = some (.int 2) ∧ Fr n0 L ∧ (h = h0)
set_option maxRecDepth 65536 in
set_option maxHeartbeats 40000000 in
theorem rm_mi2_2 (l : Launch) (Z : State) (a0 : Array Value) (hw : own_HW Z a0) (ws : List Jvm.Cond)  (h0 : Heap) (n0 : Nat) (Z0 : n0 ≤ h0.size)  :
    MetFree l (⟨"java/lang/Math", "min", "(II)I"⟩ : MethodName) (head1 (Jvm.Cond.code (⟨"java/lang/Math", "min", "(II)I"⟩ : MethodName) jdk_29_method_69_code 2 (some .int) :: ws) ({ frames := 0, cells := 0, slots := 0, locals := 0 } : Room)) (fun a U => a = #[(.int 2), (.int 2)] ∧ Z.Warmed39 U.vm ∧ U.heap = h0) (fun _ _ _ _ _ => True) (fun _ U o U' => ∃ v L, o = .returned v ∧ Q_mi2_2 Z  h0 n0 v U'.heap L ∧ FrameEnd U o U' L ({ frames := 0, cells := 0, slots := 0, locals := 0 } : Room).cells ({ frames := 0, cells := 0, slots := 0, locals := 0 } : Room).slots) := by
  refine MetFree.of_bodySF (Jvm.Free.JP.mathPlain rfl (by decide +kernel)) hisR ?_
  intro p e s m args below meth c s₁ Bd hml0 hP hK
  obtain ⟨rfl, hZ, hh⟩ := hP
  have hx := Bd.exec
  have hby := Bd.bytes
  have hml : c.maxLocals = 2 := hml0
  have hown : s.vm.findClass "java/lang/Math" = some m.cls := findClass_of_methodNamed Bd.named
  have hnm := (name_of_methodNamed Bd.named Bd.method).1
  have X0 : Stand p l e ({ frames := 0, cells := 0, slots := 0, locals := 0 } : Room) s m #[(.int 2), (.int 2)] below meth c s₁ [] 0 0 := Stand.of_body Bd
  have e0 : s₁.heap = h0 := by rw [← hh, Bd.state]; rfl
  have N0 := Fr.nil n0
  have pre0 : ∀ t, Steps p.tables e below (s₁.setTop (mkF m 0 #[oI 2, oI 2] [])) t → Steps p.tables e below (s₁.setTop (entryFrame m #[(.int 2), (.int 2)] 2)) t := fun t k => castTop (ef_mi2_2 m ) k
  obtain ⟨fs, hr, hrun, hended, hW, hsame⟩ := X0.leave (v := some (.int 2)) (fun h => by rw [Bd.returns] at h; cases h)
  refine ⟨_, _, pre0 _ ?_, hrun, hended, _, _, rfl, ?_, ⟨_, rfl⟩, hW, hsame.mono (by decide) (by decide)⟩
  · show own_S p e below s₁ m 0 #[oI 2, oI 2] [] _
    refine XS.iloadN X0.here hx rfl (hb hby d38_0) rfl ?_
    refine XS.iloadN X0.here hx rfl (hb hby d38_1) rfl ?_
    refine XS.icmpNo X0.here hx rfl (hb hby d38_2) rfl (flt (by decide : ¬ ((2 : Int32) < (2 : Int32)))).2.2.1 ?_
    refine XS.iloadN X0.here hx rfl (hb hby d38_5) rfl ?_
    show own_S p e below s₁ m 6 _ [(.int 2)] _
    refine XS.goto X0.here hx rfl (pc0 := 6) (pc' := 10) rfl (hb hby d38_6) (by decide) (by decide) ?_
    show own_S p e below s₁ m 10 _ [(.int 2)] _
    exact retOut X0 hx Bd.returns rfl (Or.inl ⟨rfl, Or.inl rfl, _, rfl⟩) (hb hby d38_10) hr
  · show Q_mi2_2 Z  h0 n0 _ s₁.heap _
    rw [e0]
    exact ⟨rfl, N0, rfl⟩
theorem ef_c32_2 (m : MethodId) (el : Addr) (mr : Addr) : entryFrame m #[(.ref el), (.int 2), (.ref mr)] 4 = mkF m 0 #[oR el, oI 2, oR mr, oU] [] := by first | (simp [entryFrame, mkF, argsToLocals, Value.category]; done) | rfl
def Q_c32_2 (Z : State) (el : Addr) (mr : Addr) (kel : ClassId) (x0 : Addr) (x1 : Addr) (h0 : Heap) (n0 : Nat) (v : Option Value) (h : Heap) (L : List Loc) : Prop := ∃ na : Addr, ∃ kna : ClassId, v = some (.ref na) ∧ Fr n0 L ∧ (Keep h0 h []) ∧ (h0.size ≤ na) ∧ (Arv Z h na kna (.object kOB) (2 : Int32) [(.ref x0), (.ref x1)] .null) ∧ (Exa Z h na kOA)
set_option maxRecDepth 65536 in
set_option maxHeartbeats 40000000 in
theorem rm_c32_2 (l : Launch) (Z : State) (a0 : Array Value) (hw : own_HW Z a0) (ws : List Jvm.Cond) (el : Addr) (mr : Addr) (kel : ClassId) (x0 : Addr) (x1 : Addr) (h0 : Heap) (n0 : Nat) (Z0 : n0 ≤ h0.size) (V_el : Arv Z h0 el kel (.object kOB) (2 : Int32) [(.ref x0), (.ref x1)] .null) (E_el : Exa Z h0 el kOA) (I_x0 : Ins Z h0 x0 kOB true) (I_x1 : Ins Z h0 x1 kOB true) (M_mr : own_Mi Z kOA mr) :
    MetFree l (⟨"java/util/Arrays", "copyOf", "([Ljava/lang/Object;ILjava/lang/Class;)[Ljava/lang/Object;"⟩ : MethodName) (head1 (Jvm.Cond.code (⟨"java/util/Arrays", "copyOf", "([Ljava/lang/Object;ILjava/lang/Class;)[Ljava/lang/Object;"⟩ : MethodName) jdk_65_method_120_code 4 (some (.array (.object kOB))) :: ws) ({ frames := 1, cells := 1, slots := 2, locals := 20 } : Room)) (fun a U => a = #[(.ref el), (.int 2), (.ref mr)] ∧ Z.Warmed39 U.vm ∧ U.heap = h0) (fun _ _ _ _ _ => True) (fun _ U o U' => ∃ v L, o = .returned v ∧ Q_c32_2 Z el mr kel x0 x1 h0 n0 v U'.heap L ∧ FrameEnd U o U' L ({ frames := 1, cells := 1, slots := 2, locals := 20 } : Room).cells ({ frames := 1, cells := 1, slots := 2, locals := 20 } : Room).slots) := by
  refine MetFree.of_bodySF (plainFor_of_name pn12) hisR ?_
  intro p e s m args below meth c s₁ Bd hml0 hP hK
  obtain ⟨rfl, hZ, hh⟩ := hP
  have hx := Bd.exec
  have hby := Bd.bytes
  have hml : c.maxLocals = 4 := hml0
  have hown : s.vm.findClass "java/util/Arrays" = some m.cls := findClass_of_methodNamed Bd.named
  have hnm := (name_of_methodNamed Bd.named Bd.method).1
  have X0 : Stand p l e ({ frames := 1, cells := 1, slots := 2, locals := 20 } : Room) s m #[(.ref el), (.int 2), (.ref mr)] below meth c s₁ [] 0 0 := Stand.of_body Bd
  have e0 : s₁.heap = h0 := by rw [← hh, Bd.state]; rfl
  have N0 := Fr.nil n0
  have pre0 : ∀ t, Steps p.tables e below (s₁.setTop (mkF m 0 #[oR el, oI 2, oR mr, oU] [])) t → Steps p.tables e below (s₁.setTop (entryFrame m #[(.ref el), (.int 2), (.ref mr)] 4)) t := fun t k => castTop (ef_c32_2 m el mr) k
  obtain ⟨T101, X101, e101, st101⟩ := own_ldcM X0 hx hZ hown (own_w hw 256 rfl) e0 M_mr (g := (mkF m 1 #[oR el, oI 2, oR mr, oU] [(.ref mr)])) rfl (hb hby d37_1)
  obtain ⟨T102, h102, k102, X102, e102, E102, A102, Ea102, O102, st102⟩ := newRE X101 hx hZ hown (own_w hw 257 rfl) (own_w hw 85 rfl) e101 (g := (mkF m 7 #[oR el, oI 2, oR mr, oU] [(.int 2)])) rfl (hb hby d37_7) rfl (by decide) (cap := 2) (by decide) (by decide) (by decide) (by decide) (ad := kOA) (by decide)
  obtain ⟨b102, g102⟩ : ∃ z, z = h0.size := ⟨_, rfl⟩
  rw [← g102] at A102 Ea102 st102
  have g_b102 : n0 ≤ b102 := Nat.le_trans Z0 (Nat.le_of_eq g102.symm)
  have sz_b102 : h0.size ≤ b102 := Nat.le_trans (Keep.refl h0 []).1 (Nat.le_of_eq g102.symm)
  have ZZ103 : n0 ≤ h102.size := Nat.le_trans Z0 E102.1
  have KK104 : Keep h0 h102 [] := (Keep.refl h0 []).ext E102
  have V_b102 : Arv Z h102 b102 k102 (.object kOB) (2 : Int32) [.null, .null] .null := (Arv.new A102 (by decide)).pad (pad_rep [] .null 2)
  obtain ⟨cl105, Ar105, qk105, Sz105, Nz105, Hh105, Gg105⟩ := id (V_el.ext E102)
  obtain ⟨_, T106, L106, X106, hQ106, st106⟩ := own_cS X102 hx hZ hw hown (W := 4) (rm_mi2_2 l Z a0 hw []  h102 n0 ZZ103 ) (by decide) (by decide) (by decide) 258 rfl 259 rfl 82 rfl 260 rfl e102 (g := (mkF m 32 #[oR el, oI 2, oR mr, oR b102] [(.int 2), (.int 2), (.int 0), (.ref b102), (.int 0), (.ref el)])) rfl (by rw [hml]; rfl) (argsL := [(.int 2), (.int 2)]) (rest := [(.int 0), (.ref b102), (.int 0), (.ref el)]) (lenOf pd2 rfl) rfl (Nat.le_of_eq rfl) (hb hby d37_32) rfl (cN := 1) rfl (by decide) (sN := 2) rfl (by decide)
  obtain ⟨rfl, Nq106, P106_0⟩ := hQ106
  have N106 := Fr.app N0 Nq106
  obtain ⟨cl107, Ar107, qk107, Sz107, Nz107, Hh107, Gg107⟩ := id V_b102
  obtain ⟨T108, h108, L108, X108, e108, N108, K108, A108, st108⟩ := cpA (us := [(.ref x0), (.ref x1)]) X106 hx hZ hown (own_w hw 261 rfl) (own_w hw 264 rfl) (own_w hw 262 rfl) (own_w hw 263 rfl) P106_0 (V_el.ext E102) V_b102 (Or.inr ⟨rfl, rfl, ⟨(Sto.ofV Ar107 qk107 O102 (I_x0.ext E102)), ⟨(Sto.ofV Ar107 qk107 O102 (I_x1.ext E102)), trivial⟩⟩⟩) (by decide) (by decide) (by decide) (by decide) (by decide) rfl (Nat.le_of_ble_eq_true rfl) N106 g_b102 (g := (mkF m 35 #[oR el, oI 2, oR mr, oR b102] [(.int 2), (.int 0), (.ref b102), (.int 0), (.ref el)])) rfl (by rw [hml]; rfl) rfl (hb hby d37_35) (by decide) (W := 0) (by show 2 * 0 + _ ≤ _; exact Nat.le_of_eq rfl) (by decide +kernel)
  have ZZ109 : n0 ≤ h108.size := Nat.le_trans ZZ103 K108.1
  have KK110 : Keep h0 h108 [] := Keep.trans KK104 K108 (allS (Or.inr sz_b102) all0)
  have V108 : Arv Z h108 b102 k102 (.object kOB) (2 : Int32) [(.ref x0), (.ref x1)] .null := A108
  obtain ⟨fs, hr, hrun, hended, hW, hsame⟩ := X108.leave (v := some (.ref b102)) (fun h => by rw [Bd.returns] at h; cases h)
  refine ⟨_, _, pre0 _ ?_, hrun, hended, _, _, rfl, ?_, ⟨_, rfl⟩, hW, hsame.mono (by decide) (by decide)⟩
  · show own_S p e below s₁ m 0 #[oR el, oI 2, oR mr, oU] [] _
    refine XS.aloadN X0.here hx rfl (hb hby d37_0) rfl rfl ?_
    show own_S p e below s₁ m 1 _ [(.ref mr)] _
    refine st101 _ ?_
    show own_S p e below T101 m 3 _ [(.ref mr), (.ref mr)] _
    refine Jvm.RoadKit.acmp (g := (mkF m 3 #[oR el, oI 2, oR mr, oU] [(.ref mr), (.ref mr)])) X101 hx rfl rfl rfl (pc0 := 3) (pc' := 6) (same := true) rfl (hb hby d37_3) rfl (decide_eq_true rfl) (by decide) (by decide) ?_
    show own_S p e below T101 m 6 _ [] _
    refine XS.iloadN X101.here hx rfl (hb hby d37_6) rfl ?_
    show own_S p e below T101 m 7 _ [(.int 2)] _
    refine st102 _ ?_
    show own_S p e below T102 m 10 _ [(.ref b102)] _
    refine XS.goto X102.here hx rfl (pc0 := 10) (pc' := 24) rfl (hb hby d37_10) (by decide) (by decide) ?_
    refine XS.astoreN X102.here hx rfl (hb hby d37_24) rfl rfl (l' := #[oR el, oI 2, oR mr, oR b102]) rfl ?_
    refine XS.aloadN X102.here hx rfl (hb hby d37_25) rfl rfl ?_
    refine XS.iconst X102.here hx rfl (hb hby d37_26) ?_
    show own_S p e below T102 m 27 _ [(.int 0), (.ref el)] _
    refine XS.aloadN X102.here hx rfl (hb hby d37_27) rfl rfl ?_
    refine XS.iconst X102.here hx rfl (hb hby d37_28) ?_
    refine XS.aloadN X102.here hx rfl (hb hby d37_29) rfl rfl ?_
    show own_S p e below T102 m 30 _ [(.ref el), (.int 0), (.ref b102), (.int 0), (.ref el)] _
    refine X102.arraylength hx (by rw [e102]; exact Ar105.1) (State.isArrayOf_alike hZ.alike Ar105.2.1) (g := (mkF m 30 #[oR el, oI 2, oR mr, oR b102] [(.ref el), (.int 0), (.ref b102), (.int 0), (.ref el)])) rfl rfl (hb hby d37_30) _ ?_
    rw [len_of Sz105 Nz105]
    show own_S p e below T102 m 31 _ [(.int 2), (.int 0), (.ref b102), (.int 0), (.ref el)] _
    refine XS.iloadN X102.here hx rfl (hb hby d37_31) rfl ?_
    show own_S p e below T102 m 32 #[oR el, oI 2, oR mr, oR b102] [(.int 2), (.int 2), (.int 0), (.ref b102), (.int 0), (.ref el)] _
    refine st106.trans ?_
    show own_S p e below T106 m 35 _ [(.int 2), (.int 0), (.ref b102), (.int 0), (.ref el)] _
    refine st108 _ ?_
    show own_S p e below T108 m 38 _ [] _
    refine XS.aloadN X108.here hx rfl (hb hby d37_38) rfl rfl ?_
    show own_S p e below T108 m 39 _ [(.ref b102)] _
    exact retOut X108 hx Bd.returns rfl (Or.inr (Or.inr (Or.inr (Or.inr ⟨rfl, rfl, rfl⟩)))) (hb hby d37_39) hr
  · show Q_c32_2 Z el mr kel x0 x1 h0 n0 _ T108.heap _
    rw [e108]
    exact ⟨b102, k102, rfl, N108, KK110, sz_b102, V108, (Ea102.keep K108)⟩
theorem ef_c22_2 (m : MethodId) (el : Addr) : entryFrame m #[(.ref el), (.int 2)] 2 = mkF m 0 #[oR el, oI 2] [] := by first | (simp [entryFrame, mkF, argsToLocals, Value.category]; done) | rfl
def Q_c22_2 (Z : State) (el : Addr) (kel : ClassId) (x0 : Addr) (x1 : Addr) (mr : Addr) (h0 : Heap) (n0 : Nat) (v : Option Value) (h : Heap) (L : List Loc) : Prop := ∃ na : Addr, ∃ kna : ClassId, v = some (.ref na) ∧ Fr n0 L ∧ (Keep h0 h []) ∧ (h0.size ≤ na) ∧ (Arv Z h na kna (.object kOB) (2 : Int32) [(.ref x0), (.ref x1)] .null) ∧ (Exa Z h na kOA)
set_option maxRecDepth 65536 in
set_option maxHeartbeats 40000000 in
theorem rm_c22_2 (l : Launch) (Z : State) (a0 : Array Value) (hw : own_HW Z a0) (ws : List Jvm.Cond) (el : Addr) (kel : ClassId) (x0 : Addr) (x1 : Addr) (mr : Addr) (h0 : Heap) (n0 : Nat) (Z0 : n0 ≤ h0.size) (V_el : Arv Z h0 el kel (.object kOB) (2 : Int32) [(.ref x0), (.ref x1)] .null) (E_el : Exa Z h0 el kOA) (I_x0 : Ins Z h0 x0 kOB true) (I_x1 : Ins Z h0 x1 kOB true) (M_mr : own_Mi Z kOA mr) :
    MetFree l (⟨"java/util/Arrays", "copyOf", "([Ljava/lang/Object;I)[Ljava/lang/Object;"⟩ : MethodName) (head1 (Jvm.Cond.code (⟨"java/util/Arrays", "copyOf", "([Ljava/lang/Object;I)[Ljava/lang/Object;"⟩ : MethodName) jdk_65_method_119_code 2 (some (.array (.object kOB))) :: ws) ({ frames := 2, cells := 1, slots := 2, locals := 35 } : Room)) (fun a U => a = #[(.ref el), (.int 2)] ∧ Z.Warmed39 U.vm ∧ U.heap = h0) (fun _ _ _ _ _ => True) (fun _ U o U' => ∃ v L, o = .returned v ∧ Q_c22_2 Z el kel x0 x1 mr h0 n0 v U'.heap L ∧ FrameEnd U o U' L ({ frames := 2, cells := 1, slots := 2, locals := 35 } : Room).cells ({ frames := 2, cells := 1, slots := 2, locals := 35 } : Room).slots) := by
  refine MetFree.of_bodySF (plainFor_of_name pn12) hisR ?_
  intro p e s m args below meth c s₁ Bd hml0 hP hK
  obtain ⟨rfl, hZ, hh⟩ := hP
  have hx := Bd.exec
  have hby := Bd.bytes
  have hml : c.maxLocals = 2 := hml0
  have hown : s.vm.findClass "java/util/Arrays" = some m.cls := findClass_of_methodNamed Bd.named
  have hnm := (name_of_methodNamed Bd.named Bd.method).1
  have X0 : Stand p l e ({ frames := 2, cells := 1, slots := 2, locals := 35 } : Room) s m #[(.ref el), (.int 2)] below meth c s₁ [] 0 0 := Stand.of_body Bd
  have e0 : s₁.heap = h0 := by rw [← hh, Bd.state]; rfl
  have N0 := Fr.nil n0
  have pre0 : ∀ t, Steps p.tables e below (s₁.setTop (mkF m 0 #[oR el, oI 2] [])) t → Steps p.tables e below (s₁.setTop (entryFrame m #[(.ref el), (.int 2)] 2)) t := fun t k => castTop (ef_c22_2 m el) k
  obtain ⟨T101, X101, e101, st101⟩ := own_gcls X0 hx hZ hown (own_w hw 247 rfl) (own_w hw 248 rfl) (own_w hw 228 rfl) (own_w hw 250 rfl) (own_w hw 249 rfl) (own_w hw 251 rfl) e0 E_el M_mr (g := (mkF m 3 #[oR el, oI 2] [(.ref el), (.int 2), (.ref el)])) rfl (by rw [hml]; rfl) rfl (hb hby d36_3) (by decide) (W := 2) (by show 2 * 0 + _ ≤ _; exact Nat.le_of_eq rfl) (by decide +kernel)
  obtain ⟨_, T102, L102, X102, hQ102, st102⟩ := own_cS X101 hx hZ hw hown (W := 0) (rm_c32_2 l Z a0 hw [] el mr kel x0 x1 h0 n0 Z0 V_el E_el I_x0 I_x1 M_mr) (by decide) (by decide) (by decide) 253 rfl 254 rfl 245 rfl 255 rfl e101 (g := (mkF m 6 #[oR el, oI 2] [(.ref mr), (.int 2), (.ref el)])) rfl (by rw [hml]; rfl) (argsL := [(.ref el), (.int 2), (.ref mr)]) (rest := []) (lenOf pd11 rfl) rfl (Nat.le_of_eq rfl) (hb hby d36_6) rfl (cN := 1) rfl (by decide) (sN := 2) rfl (by decide)
  obtain ⟨na_102, kna_102, rfl, Nq102, P102_0, P102_1, P102_2, P102_3⟩ := hQ102
  have N102 := Fr.app N0 Nq102
  have g_na_102 : n0 ≤ na_102 := Nat.le_trans Z0 P102_1
  have sz_na_102 : h0.size ≤ na_102 := Nat.le_trans (Keep.refl h0 []).1 P102_1
  have ZZ103 : n0 ≤ T102.heap.size := Nat.le_trans Z0 P102_0.1
  have KK104 : Keep h0 T102.heap [] := Keep.trans (Keep.refl h0 []) P102_0 all0
  obtain ⟨fs, hr, hrun, hended, hW, hsame⟩ := X102.leave (v := some (.ref na_102)) (fun h => by rw [Bd.returns] at h; cases h)
  refine ⟨_, _, pre0 _ ?_, hrun, hended, _, _, rfl, ?_, ⟨_, rfl⟩, hW, hsame.mono (by decide) (by decide)⟩
  · show own_S p e below s₁ m 0 #[oR el, oI 2] [] _
    refine XS.aloadN X0.here hx rfl (hb hby d36_0) rfl rfl ?_
    refine XS.iloadN X0.here hx rfl (hb hby d36_1) rfl ?_
    refine XS.aloadN X0.here hx rfl (hb hby d36_2) rfl rfl ?_
    show own_S p e below s₁ m 3 _ [(.ref el), (.int 2), (.ref el)] _
    refine st101 _ ?_
    show own_S p e below T101 m 6 _ [(.ref mr), (.int 2), (.ref el)] _
    refine st102.trans ?_
    show own_S p e below T102 m 9 _ [(.ref na_102)] _
    exact retOut X102 hx Bd.returns rfl (Or.inr (Or.inr (Or.inr (Or.inr ⟨rfl, rfl, rfl⟩)))) (hb hby d36_9) hr
  · show Q_c22_2 Z el kel x0 x1 mr h0 n0 _ T102.heap _
    exact ⟨na_102, kna_102, rfl, N102, KK104, sz_na_102, P102_2, P102_3⟩
theorem ef_ta2_2 (m : MethodId) (r0 : Addr) : entryFrame m #[(.ref r0)] 1 = mkF m 0 #[oR r0] [] := by first | (simp [entryFrame, mkF, argsToLocals, Value.category]; done) | rfl
def Q_ta2_2 (Z : State) (r0 : Addr) (el : Addr) (kel : ClassId) (x0 : Addr) (x1 : Addr) (mr : Addr) (h0 : Heap) (n0 : Nat) (v : Option Value) (h : Heap) (L : List Loc) : Prop := ∃ na : Addr, ∃ kna : ClassId, v = some (.ref na) ∧ Fr n0 L ∧ (Keep h0 h []) ∧ (h0.size ≤ na) ∧ (Arv Z h na kna (.object kOB) (2 : Int32) [(.ref x0), (.ref x1)] .null) ∧ (Exa Z h na kOA)
set_option maxRecDepth 65536 in
set_option maxHeartbeats 40000000 in
theorem rm_ta2_2 (l : Launch) (Z : State) (a0 : Array Value) (hw : own_HW Z a0) (ws : List Jvm.Cond) (r0 : Addr) (el : Addr) (kel : ClassId) (x0 : Addr) (x1 : Addr) (mr : Addr) (h0 : Heap) (n0 : Nat) (Z0 : n0 ≤ h0.size) (E_r0 : Exa Z h0 r0 kAL) (F_elementData_r0 : Fld Z h0 r0 kAL "elementData" kOA (.ref el)) (F_size_r0 : Fld Z h0 r0 kAL "size" "I" (.int 2)) (V_el : Arv Z h0 el kel (.object kOB) (2 : Int32) [(.ref x0), (.ref x1)] .null) (E_el : Exa Z h0 el kOA) (I_x0 : Ins Z h0 x0 kOB true) (I_x1 : Ins Z h0 x1 kOB true) (M_mr : own_Mi Z kOA mr) :
    MetFree l (⟨kAL, "toArray", "()[Ljava/lang/Object;"⟩ : MethodName) (head1 (Jvm.Cond.code (⟨kAL, "toArray", "()[Ljava/lang/Object;"⟩ : MethodName) jdk_38_method_16_code 1 (some (.array (.object kOB))) :: ws) ({ frames := 3, cells := 1, slots := 2, locals := 48 } : Room)) (fun a U => a = #[(.ref r0)] ∧ Z.Warmed39 U.vm ∧ U.heap = h0) (fun _ _ _ _ _ => True) (fun _ U o U' => ∃ v L, o = .returned v ∧ Q_ta2_2 Z r0 el kel x0 x1 mr h0 n0 v U'.heap L ∧ FrameEnd U o U' L ({ frames := 3, cells := 1, slots := 2, locals := 48 } : Room).cells ({ frames := 3, cells := 1, slots := 2, locals := 48 } : Room).slots) := by
  refine MetFree.of_bodySF (plainFor_of_name pn2) hisR ?_
  intro p e s m args below meth c s₁ Bd hml0 hP hK
  obtain ⟨rfl, hZ, hh⟩ := hP
  have hx := Bd.exec
  have hby := Bd.bytes
  have hml : c.maxLocals = 1 := hml0
  have hown : s.vm.findClass kAL = some m.cls := findClass_of_methodNamed Bd.named
  have hnm := (name_of_methodNamed Bd.named Bd.method).1
  have X0 : Stand p l e ({ frames := 3, cells := 1, slots := 2, locals := 48 } : Room) s m #[(.ref r0)] below meth c s₁ [] 0 0 := Stand.of_body Bd
  have e0 : s₁.heap = h0 := by rw [← hh, Bd.state]; rfl
  have N0 := Fr.nil n0
  have pre0 : ∀ t, Steps p.tables e below (s₁.setTop (mkF m 0 #[oR r0] [])) t → Steps p.tables e below (s₁.setTop (entryFrame m #[(.ref r0)] 1)) t := fun t k => castTop (ef_ta2_2 m r0) k
  obtain ⟨T101, X101, e101, st101⟩ := getF X0 hx hZ hown (host := "") (Or.inl (own_w hw 24 rfl)) Via.refl e0 F_elementData_r0 (g := (mkF m 1 #[oR r0] [(.ref r0)])) rfl rfl (hb hby d35_1)
  obtain ⟨T102, X102, e102, st102⟩ := getF X101 hx hZ hown (host := "") (Or.inl (own_w hw 63 rfl)) Via.refl e101 F_size_r0 (g := (mkF m 5 #[oR r0] [(.ref r0), (.ref el)])) rfl rfl (hb hby d35_5)
  obtain ⟨_, T103, L103, X103, hQ103, st103⟩ := own_cS X102 hx hZ hw hown (W := 0) (rm_c22_2 l Z a0 hw [] el kel x0 x1 mr h0 n0 Z0 V_el E_el I_x0 I_x1 M_mr) (by decide) (by decide) (by decide) 243 rfl 244 rfl 245 rfl 246 rfl e102 (g := (mkF m 8 #[oR r0] [(.int 2), (.ref el)])) rfl (by rw [hml]; rfl) (argsL := [(.ref el), (.int 2)]) (rest := []) (lenOf pd12 rfl) rfl (Nat.le_of_eq rfl) (hb hby d35_8) rfl (cN := 1) rfl (by decide) (sN := 2) rfl (by decide)
  obtain ⟨na_103, kna_103, rfl, Nq103, P103_0, P103_1, P103_2, P103_3⟩ := hQ103
  have N103 := Fr.app N0 Nq103
  have g_na_103 : n0 ≤ na_103 := Nat.le_trans Z0 P103_1
  have sz_na_103 : h0.size ≤ na_103 := Nat.le_trans (Keep.refl h0 []).1 P103_1
  have ZZ104 : n0 ≤ T103.heap.size := Nat.le_trans Z0 P103_0.1
  have KK105 : Keep h0 T103.heap [] := Keep.trans (Keep.refl h0 []) P103_0 all0
  obtain ⟨fs, hr, hrun, hended, hW, hsame⟩ := X103.leave (v := some (.ref na_103)) (fun h => by rw [Bd.returns] at h; cases h)
  refine ⟨_, _, pre0 _ ?_, hrun, hended, _, _, rfl, ?_, ⟨_, rfl⟩, hW, hsame.mono (by decide) (by decide)⟩
  · show own_S p e below s₁ m 0 #[oR r0] [] _
    refine XS.aloadN X0.here hx rfl (hb hby d35_0) rfl rfl ?_
    show own_S p e below s₁ m 1 _ [(.ref r0)] _
    refine st101 _ ?_
    show own_S p e below T101 m 4 _ [(.ref el)] _
    refine XS.aloadN X101.here hx rfl (hb hby d35_4) rfl rfl ?_
    show own_S p e below T101 m 5 _ [(.ref r0), (.ref el)] _
    refine st102 _ ?_
    show own_S p e below T102 m 8 _ [(.int 2), (.ref el)] _
    refine st103.trans ?_
    show own_S p e below T103 m 11 _ [(.ref na_103)] _
    exact retOut X103 hx Bd.returns rfl (Or.inr (Or.inr (Or.inr (Or.inr ⟨rfl, rfl, rfl⟩)))) (hb hby d35_11) hr
  · show Q_ta2_2 Z r0 el kel x0 x1 mr h0 n0 _ T103.heap _
    exact ⟨na_103, kna_103, rfl, N103, KK105, sz_na_103, P103_2, P103_3⟩
theorem pd17 : parseMethodDescriptor "(Ljava/lang/Object;Ljava/lang/Object;)V" = some ⟨[(.object kOB), (.object kOB)], none⟩ := by decide +kernel
theorem d39_45 : decode k39 45 = .ok (.new 96, 3) := by decide +kernel
theorem d39_48 : decode k39 48 = .ok (.dup, 1) := by decide +kernel
theorem d39_49 : decode k39 49 = .ok (.aload_n 0, 1) := by decide +kernel
theorem d39_50 : decode k39 50 = .ok (.iconst 0, 1) := by decide +kernel
theorem d39_51 : decode k39 51 = .ok (.aaload, 1) := by decide +kernel
theorem d39_52 : decode k39 52 = .ok (.aload_n 0, 1) := by decide +kernel
theorem d39_53 : decode k39 53 = .ok (.iconst 1, 1) := by decide +kernel
theorem d39_54 : decode k39 54 = .ok (.aaload, 1) := by decide +kernel
theorem d39_55 : decode k39 55 = .ok (.invokespecial 100, 3) := by decide +kernel
theorem d39_58 : decode k39 58 = .ok (.areturn, 1) := by decide +kernel
theorem ef_of2_2 (m : MethodId) (r0 : Addr) : entryFrame m #[(.ref r0)] 2 = mkF m 0 #[oR r0, oU] [] := by first | (simp [entryFrame, mkF, argsToLocals, Value.category]; done) | rfl
def Q_of2_2 (Z : State) (r0 : Addr) (k0 : ClassId) (x0 : Addr) (x1 : Addr) (h0 : Heap) (n0 : Nat) (v : Option Value) (h : Heap) (L : List Loc) : Prop := ∃ LL : Addr, v = some (.ref LL) ∧ Fr n0 L ∧ (Keep h0 h []) ∧ (h0.size ≤ LL) ∧ (Exa Z h LL kL12) ∧ (Fld Z h LL kL12 "e0" "Ljava/lang/Object;" (.ref x0)) ∧ (Fld Z h LL kL12 "e1" "Ljava/lang/Object;" (.ref x1))
set_option maxRecDepth 65536 in
set_option maxHeartbeats 40000000 in
theorem rm_of2_2 (l : Launch) (Z : State) (a0 : Array Value) (hw : own_HW Z a0) (ws : List Jvm.Cond) (r0 : Addr) (k0 : ClassId) (x0 : Addr) (x1 : Addr) (h0 : Heap) (n0 : Nat) (Z0 : n0 ≤ h0.size) (V_r0 : Arv Z h0 r0 k0 (.object kOB) (2 : Int32) [(.ref x0), (.ref x1)] .null) :
    MetFree l (⟨"java/util/List", "of", "([Ljava/lang/Object;)Ljava/util/List;"⟩ : MethodName) (head1 (Jvm.Cond.code (⟨"java/util/List", "of", "([Ljava/lang/Object;)Ljava/util/List;"⟩ : MethodName) jdk_40_method_47_code 2 (some (.object "java/util/List")) :: ws) ({ frames := 5, cells := 1, slots := 2, locals := 63 } : Room)) (fun a U => a = #[(.ref r0)] ∧ Z.Warmed39 U.vm ∧ U.heap = h0) (fun _ _ _ _ _ => True) (fun _ U o U' => ∃ v L, o = .returned v ∧ Q_of2_2 Z r0 k0 x0 x1 h0 n0 v U'.heap L ∧ FrameEnd U o U' L ({ frames := 5, cells := 1, slots := 2, locals := 63 } : Room).cells ({ frames := 5, cells := 1, slots := 2, locals := 63 } : Room).slots) := by
  refine MetFree.of_bodySF (plainFor_of_name pn14) hisR ?_
  intro p e s m args below meth c s₁ Bd hml0 hP hK
  obtain ⟨rfl, hZ, hh⟩ := hP
  have hx := Bd.exec
  have hby := Bd.bytes
  have hml : c.maxLocals = 2 := hml0
  have hown : s.vm.findClass "java/util/List" = some m.cls := findClass_of_methodNamed Bd.named
  have hnm := (name_of_methodNamed Bd.named Bd.method).1
  have X0 : Stand p l e ({ frames := 5, cells := 1, slots := 2, locals := 63 } : Room) s m #[(.ref r0)] below meth c s₁ [] 0 0 := Stand.of_body Bd
  have e0 : s₁.heap = h0 := by rw [← hh, Bd.state]; rfl
  have N0 := Fr.nil n0
  have pre0 : ∀ t, Steps p.tables e below (s₁.setTop (mkF m 0 #[oR r0, oU] [])) t → Steps p.tables e below (s₁.setTop (entryFrame m #[(.ref r0)] 2)) t := fun t k => castTop (ef_of2_2 m r0) k
  obtain ⟨cl101, Ar101, qk101, Sz101, Nz101, Hh101, Gg101⟩ := id V_r0
  obtain ⟨T102, h102, X102, e102, E102, A102, D102, -, st102⟩ := newO X0 hx hZ hown (own_w hw 301 rfl) (own_w hw 302 rfl) (own_w hw 303 rfl) e0 (g := (mkF m 45 #[oR r0, oU] [])) rfl (hb hby d39_45) (by decide) (by decide)
  obtain ⟨b102, g102⟩ : ∃ z, z = h0.size := ⟨_, rfl⟩
  rw [← g102] at A102 D102 st102
  have g_b102 : n0 ≤ b102 := Nat.le_trans Z0 (Nat.le_of_eq g102.symm)
  have sz_b102 : h0.size ≤ b102 := Nat.le_trans (Keep.refl h0 []).1 (Nat.le_of_eq g102.symm)
  have ZZ103 : n0 ≤ h102.size := Nat.le_trans Z0 E102.1
  have KK104 : Keep h0 h102 [] := (Keep.refl h0 []).ext E102
  have F_e0_b102 : Fld Z h102 b102 kL12 "e0" "Ljava/lang/Object;" .null := D102 (Or.inr (own_w hw 314 rfl)) (ty := (.object kOB)) (by decide)
  have F_e1_b102 : Fld Z h102 b102 kL12 "e1" "Ljava/lang/Object;" .null := D102 (Or.inr (own_w hw 316 rfl)) (ty := (.object kOB)) (by decide)
  obtain ⟨cl105, Ar105, qk105, Sz105, Nz105, Hh105, Gg105⟩ := id (V_r0.ext E102)
  have hin106 : ¬ ((0 : Int32) < 0 ∨ cl105.slots.size ≤ ((0 : Int32)).toNatClampNeg) := inb_of Sz105 ⟨by decide, by decide⟩
  have hat106 : cl105.slots[((0 : Int32)).toNatClampNeg]? = some (.ref x0) := Has.at Hh105 hin106 rfl
  obtain ⟨cl107, Ar107, qk107, Sz107, Nz107, Hh107, Gg107⟩ := id (V_r0.ext E102)
  have hin108 : ¬ ((1 : Int32) < 0 ∨ cl107.slots.size ≤ ((1 : Int32)).toNatClampNeg) := inb_of Sz107 ⟨by decide, by decide⟩
  have hat108 : cl107.slots[((1 : Int32)).toNatClampNeg]? = some (.ref x1) := Has.at Hh107 hin108 rfl
  obtain ⟨_, T109, L109, X109, hQ109, st109⟩ := own_cC X102 hx hZ hw hown (b := b102) (W := 1) (rmm45 l Z a0 hw [] b102 x0 x1 .null .null h102 n0 ZZ103 A102 g_b102 F_e0_b102 F_e1_b102) (by decide) (by decide) (by decide) rfl 304 rfl 305 rfl 307 rfl 303 rfl e102 (g := (mkF m 55 #[oR r0, oU] [(.ref x1), (.ref x0), (.ref b102), (.ref b102)])) rfl (by rw [hml]; rfl) (argsL := [(.ref x0), (.ref x1)]) (rest := [(.ref b102)]) (lenOf pd17 rfl) rfl (Nat.le_of_eq rfl) (hb hby d39_55) rfl (cN := 1) rfl (by decide) (sN := 2) rfl (by decide)
  obtain ⟨rfl, Nq109, P109_0, P109_1, P109_2⟩ := hQ109
  have N109 := Fr.app N0 Nq109
  have ZZ110 : n0 ≤ T109.heap.size := Nat.le_trans ZZ103 P109_0.1
  have KK111 : Keep h0 T109.heap [] := Keep.trans KK104 P109_0 (allS (Or.inr sz_b102) all0)
  obtain ⟨fs, hr, hrun, hended, hW, hsame⟩ := X109.leave (v := some (.ref b102)) (fun h => by rw [Bd.returns] at h; cases h)
  refine ⟨_, _, pre0 _ ?_, hrun, hended, _, _, rfl, ?_, ⟨_, rfl⟩, hW, hsame.mono (by decide) (by decide)⟩
  · show own_S p e below s₁ m 0 #[oR r0, oU] [] _
    refine XS.aloadN X0.here hx rfl (hb hby d39_0) rfl rfl ?_
    show own_S p e below s₁ m 1 _ [(.ref r0)] _
    refine X0.arraylength hx (by rw [e0]; exact Ar101.1) (State.isArrayOf_alike hZ.alike Ar101.2.1) (g := (mkF m 1 #[oR r0, oU] [(.ref r0)])) rfl rfl (hb hby d39_1) _ ?_
    rw [len_of Sz101 Nz101]
    show own_S p e below s₁ m 2 _ [(.int 2)] _
    refine XS.tswIn X0.here hx rfl (pc0 := 2) (pc' := 45) (o := 43) rfl (hb hby d39_2) rfl (by decide) (by decide) (by decide) (by decide) ?_
    show own_S p e below s₁ m 45 _ [] _
    refine st102 _ ?_
    show own_S p e below T102 m 48 _ [(.ref b102)] _
    refine XS.dup X102.here hx rfl (hb hby d39_48) rfl rfl ?_
    refine XS.aloadN X102.here hx rfl (hb hby d39_49) rfl rfl ?_
    refine XS.iconst X102.here hx rfl (hb hby d39_50) ?_
    show own_S p e below T102 m 51 #[oR r0, oU] [(.int 0), (.ref r0), (.ref b102), (.ref b102)] _
    refine X102.aaload hx (j := (0 : Int32)) (v := (.ref x0)) (by rw [e102]; exact Ar105.1) (State.isArrayOf_alike hZ.alike Ar105.2.1) rfl Ar105.2.2 hin106 hat106 (g := (mkF m 51 #[oR r0, oU] [(.int 0), (.ref r0), (.ref b102), (.ref b102)])) rfl rfl (hb hby d39_51) _ ?_
    show own_S p e below T102 m 52 _ [(.ref x0), (.ref b102), (.ref b102)] _
    refine XS.aloadN X102.here hx rfl (hb hby d39_52) rfl rfl ?_
    refine XS.iconst X102.here hx rfl (hb hby d39_53) ?_
    show own_S p e below T102 m 54 _ [(.int 1), (.ref r0), (.ref x0), (.ref b102), (.ref b102)] _
    refine X102.aaload hx (j := (1 : Int32)) (v := (.ref x1)) (by rw [e102]; exact Ar107.1) (State.isArrayOf_alike hZ.alike Ar107.2.1) rfl Ar107.2.2 hin108 hat108 (g := (mkF m 54 #[oR r0, oU] [(.int 1), (.ref r0), (.ref x0), (.ref b102), (.ref b102)])) rfl rfl (hb hby d39_54) _ ?_
    show own_S p e below T102 m 55 _ [(.ref x1), (.ref x0), (.ref b102), (.ref b102)] _
    refine st109.trans ?_
    show own_S p e below T109 m 58 _ [(.ref b102)] _
    exact retOut X109 hx Bd.returns rfl (Or.inr (Or.inr (Or.inr (Or.inr ⟨rfl, rfl, rfl⟩)))) (hb hby d39_58) hr
  · show Q_of2_2 Z r0 k0 x0 x1 h0 n0 _ T109.heap _
    exact ⟨b102, rfl, N109, KK111, sz_b102, (A102.keep P109_0), P109_1, P109_2⟩
theorem ef_lc2_2 (m : MethodId) (r0 : Addr) : entryFrame m #[(.ref r0)] 2 = mkF m 0 #[oR r0, oU] [] := by first | (simp [entryFrame, mkF, argsToLocals, Value.category]; done) | rfl
def Q_lc2_2 (Z : State) (r0 : Addr) (el : Addr) (kel : ClassId) (x0 : Addr) (x1 : Addr) (mr : Addr) (h0 : Heap) (n0 : Nat) (v : Option Value) (h : Heap) (L : List Loc) : Prop := ∃ LL : Addr, v = some (.ref LL) ∧ Fr n0 L ∧ (Keep h0 h []) ∧ (h0.size ≤ LL) ∧ (Exa Z h LL kL12) ∧ (Fld Z h LL kL12 "e0" "Ljava/lang/Object;" (.ref x0)) ∧ (Fld Z h LL kL12 "e1" "Ljava/lang/Object;" (.ref x1))
set_option maxRecDepth 65536 in
set_option maxHeartbeats 40000000 in
theorem rm_lc2_2 (l : Launch) (Z : State) (a0 : Array Value) (hw : own_HW Z a0) (ws : List Jvm.Cond) (r0 : Addr) (el : Addr) (kel : ClassId) (x0 : Addr) (x1 : Addr) (mr : Addr) (h0 : Heap) (n0 : Nat) (Z0 : n0 ≤ h0.size) (E_r0 : Exa Z h0 r0 kAL) (F_elementData_r0 : Fld Z h0 r0 kAL "elementData" kOA (.ref el)) (F_size_r0 : Fld Z h0 r0 kAL "size" "I" (.int 2)) (V_el : Arv Z h0 el kel (.object kOB) (2 : Int32) [(.ref x0), (.ref x1)] .null) (E_el : Exa Z h0 el kOA) (I_x0 : Ins Z h0 x0 kOB true) (I_x1 : Ins Z h0 x1 kOB true) (M_mr : own_Mi Z kOA mr) :
    MetFree l (⟨"java/util/ImmutableCollections", "listCopy", "(Ljava/util/Collection;)Ljava/util/List;"⟩ : MethodName) (head1 (Jvm.Cond.code (⟨"java/util/ImmutableCollections", "listCopy", "(Ljava/util/Collection;)Ljava/util/List;"⟩ : MethodName) jdk_56_method_3_code 2 (some (.object "java/util/List")) :: ws) ({ frames := 6, cells := 2, slots := 4, locals := 76 } : Room)) (fun a U => a = #[(.ref r0)] ∧ Z.Warmed39 U.vm ∧ U.heap = h0) (fun _ _ _ _ _ => True) (fun _ U o U' => ∃ v L, o = .returned v ∧ Q_lc2_2 Z r0 el kel x0 x1 mr h0 n0 v U'.heap L ∧ FrameEnd U o U' L ({ frames := 6, cells := 2, slots := 4, locals := 76 } : Room).cells ({ frames := 6, cells := 2, slots := 4, locals := 76 } : Room).slots) := by
  refine MetFree.of_bodySF (plainFor_of_name pn13) hisR ?_
  intro p e s m args below meth c s₁ Bd hml0 hP hK
  obtain ⟨rfl, hZ, hh⟩ := hP
  have hx := Bd.exec
  have hby := Bd.bytes
  have hml : c.maxLocals = 2 := hml0
  have hown : s.vm.findClass "java/util/ImmutableCollections" = some m.cls := findClass_of_methodNamed Bd.named
  have hnm := (name_of_methodNamed Bd.named Bd.method).1
  have X0 : Stand p l e ({ frames := 6, cells := 2, slots := 4, locals := 76 } : Room) s m #[(.ref r0)] below meth c s₁ [] 0 0 := Stand.of_body Bd
  have e0 : s₁.heap = h0 := by rw [← hh, Bd.state]; rfl
  have N0 := Fr.nil n0
  have pre0 : ∀ t, Steps p.tables e below (s₁.setTop (mkF m 0 #[oR r0, oU] [])) t → Steps p.tables e below (s₁.setTop (entryFrame m #[(.ref r0)] 2)) t := fun t k => castTop (ef_lc2_2 m r0) k
  obtain ⟨T101, X101, e101, st101⟩ := instNo X0 hx hZ hown (own_w hw 224 rfl) e0 E_r0 (own_no12 hw) (g := (mkF m 1 #[oR r0, oU] [(.ref r0)])) rfl rfl (hb hby d34_1)
  obtain ⟨T102, X102, e102, st102⟩ := instNo X101 hx hZ hown (own_w hw 229 rfl) e101 E_r0 (own_noN hw) (g := (mkF m 8 #[oR r0, oU] [(.ref r0)])) rfl rfl (hb hby d34_8)
  obtain ⟨_, T103, L103, X103, hQ103, st103⟩ := own_cI X102 hx hZ hw hown (b := r0) (W := 0) (rmm18 l Z a0 hw [] r0 (2 : Int32) h0 n0 Z0 F_size_r0 (by decide)) (by decide) (by decide) (by decide) 230 rfl 231 rfl 232 rfl 233 rfl 117 rfl 118 rfl 119 rfl 234 rfl 120 rfl 2 rfl e102 E_r0 (g := (mkF m 32 #[oR r0, oU] [(.ref r0)])) rfl (by rw [hml]; rfl) (argsL := []) (rest := []) (lenOf pd15 rfl) rfl (Nat.le_of_eq rfl) (hb hby d34_32) rfl (cN := 0) rfl (by decide) (sN := 0) rfl (by decide)
  obtain ⟨rfl, Nq103, P103_0⟩ := hQ103
  have N103 := Fr.app N0 Nq103
  obtain ⟨_, T104, L104, X104, hQ104, st104⟩ := own_cI X103 hx hZ hw hown (b := r0) (W := 0) (rm_ta2_2 l Z a0 hw [] r0 el kel x0 x1 mr h0 n0 Z0 E_r0 F_elementData_r0 F_size_r0 V_el E_el I_x0 I_x1 M_mr) (by decide) (by decide) (by decide) 235 rfl 236 rfl 237 rfl 238 rfl 239 rfl 240 rfl 241 rfl 234 rfl 242 rfl 2 rfl P103_0 E_r0 (g := (mkF m 45 #[oR r0, oU] [(.ref r0)])) rfl (by rw [hml]; rfl) (argsL := []) (rest := []) (lenOf pd4 rfl) rfl (Nat.le_of_eq rfl) (hb hby d34_45) rfl (cN := 1) rfl (by decide) (sN := 2) rfl (by decide)
  obtain ⟨na_104, kna_104, rfl, Nq104, P104_0, P104_1, P104_2, P104_3⟩ := hQ104
  have N104 := Fr.app N103 Nq104
  have g_na_104 : n0 ≤ na_104 := Nat.le_trans Z0 P104_1
  have sz_na_104 : h0.size ≤ na_104 := Nat.le_trans (Keep.refl h0 []).1 P104_1
  have ZZ105 : n0 ≤ T104.heap.size := Nat.le_trans Z0 P104_0.1
  have KK106 : Keep h0 T104.heap [] := Keep.trans (Keep.refl h0 []) P104_0 all0
  obtain ⟨_, T107, L107, X107, hQ107, st107⟩ := own_cS X104 hx hZ hw hown (W := 0) (rm_of2_2 l Z a0 hw [] na_104 kna_104 x0 x1 T104.heap n0 ZZ105 P104_2) (by decide) (by decide) (by decide) 265 rfl 266 rfl 218 rfl 267 rfl rfl (g := (mkF m 50 #[oR r0, oU] [(.ref na_104)])) rfl (by rw [hml]; rfl) (argsL := [(.ref na_104)]) (rest := []) (lenOf pd14 rfl) rfl (Nat.le_of_eq rfl) (hb hby d34_50) rfl (cN := 2) rfl (by decide) (sN := 4) rfl (by decide)
  obtain ⟨LL_107, rfl, Nq107, P107_0, P107_1, P107_2, P107_3, P107_4⟩ := hQ107
  have N107 := Fr.app N104 Nq107
  have g_LL_107 : n0 ≤ LL_107 := Nat.le_trans ZZ105 P107_1
  have sz_LL_107 : h0.size ≤ LL_107 := Nat.le_trans KK106.1 P107_1
  have ZZ108 : n0 ≤ T107.heap.size := Nat.le_trans ZZ105 P107_0.1
  have KK109 : Keep h0 T107.heap [] := Keep.trans KK106 P107_0 all0
  obtain ⟨fs, hr, hrun, hended, hW, hsame⟩ := X107.leave (v := some (.ref LL_107)) (fun h => by rw [Bd.returns] at h; cases h)
  refine ⟨_, _, pre0 _ ?_, hrun, hended, _, _, rfl, ?_, ⟨_, rfl⟩, hW, hsame.mono (by decide) (by decide)⟩
  · show own_S p e below s₁ m 0 #[oR r0, oU] [] _
    refine XS.aloadN X0.here hx rfl (hb hby d34_0) rfl rfl ?_
    show own_S p e below s₁ m 1 _ [(.ref r0)] _
    refine st101 _ ?_
    show own_S p e below T101 m 4 _ [(.int 0)] _
    refine XS.ifNo X101.here hx rfl (hb hby d34_4) rfl ((if0 _ _).trans (teq (by decide : (0 : Int32) = (0 : Int32))).2) ?_
    refine XS.aloadN X101.here hx rfl (hb hby d34_7) rfl rfl ?_
    show own_S p e below T101 m 8 _ [(.ref r0)] _
    refine st102 _ ?_
    show own_S p e below T102 m 11 _ [(.int 0)] _
    refine XS.ifYes X102.here hx rfl (pc0 := 11) (pc' := 31) rfl (hb hby d34_11) rfl ((if0 _ _).trans (teq (by decide : (0 : Int32) = (0 : Int32))).1) (by decide) (by decide) ?_
    refine XS.aloadN X102.here hx rfl (hb hby d34_31) rfl rfl ?_
    show own_S p e below T102 m 32 #[oR r0, oU] [(.ref r0)] _
    refine st103.trans ?_
    show own_S p e below T103 m 37 _ [(.int 0)] _
    refine XS.ifYes X103.here hx rfl (pc0 := 37) (pc' := 44) rfl (hb hby d34_37) rfl ((if0 _ _).trans (teq (by decide : (0 : Int32) = (0 : Int32))).1) (by decide) (by decide) ?_
    refine XS.aloadN X103.here hx rfl (hb hby d34_44) rfl rfl ?_
    show own_S p e below T103 m 45 _ [(.ref r0)] _
    refine st104.trans ?_
    show own_S p e below T104 m 50 _ [(.ref na_104)] _
    refine st107.trans ?_
    show own_S p e below T107 m 53 _ [(.ref LL_107)] _
    exact retOut X107 hx Bd.returns rfl (Or.inr (Or.inr (Or.inr (Or.inr ⟨rfl, rfl, rfl⟩)))) (hb hby d34_53) hr
  · show Q_lc2_2 Z r0 el kel x0 x1 mr h0 n0 _ T107.heap _
    exact ⟨LL_107, rfl, N107, KK109, sz_LL_107, P107_2, P107_3, P107_4⟩
theorem ef_co2_2 (m : MethodId) (r0 : Addr) : entryFrame m #[(.ref r0)] 1 = mkF m 0 #[oR r0] [] := by first | (simp [entryFrame, mkF, argsToLocals, Value.category]; done) | rfl
def Q_co2_2 (Z : State) (r0 : Addr) (el : Addr) (kel : ClassId) (x0 : Addr) (x1 : Addr) (mr : Addr) (h0 : Heap) (n0 : Nat) (v : Option Value) (h : Heap) (L : List Loc) : Prop := ∃ LL : Addr, v = some (.ref LL) ∧ Fr n0 L ∧ (Keep h0 h []) ∧ (h0.size ≤ LL) ∧ (Exa Z h LL kL12) ∧ (Fld Z h LL kL12 "e0" "Ljava/lang/Object;" (.ref x0)) ∧ (Fld Z h LL kL12 "e1" "Ljava/lang/Object;" (.ref x1))
set_option maxRecDepth 65536 in
set_option maxHeartbeats 40000000 in
theorem rm_co2_2 (l : Launch) (Z : State) (a0 : Array Value) (hw : own_HW Z a0) (ws : List Jvm.Cond) (r0 : Addr) (el : Addr) (kel : ClassId) (x0 : Addr) (x1 : Addr) (mr : Addr) (h0 : Heap) (n0 : Nat) (Z0 : n0 ≤ h0.size) (E_r0 : Exa Z h0 r0 kAL) (F_elementData_r0 : Fld Z h0 r0 kAL "elementData" kOA (.ref el)) (F_size_r0 : Fld Z h0 r0 kAL "size" "I" (.int 2)) (V_el : Arv Z h0 el kel (.object kOB) (2 : Int32) [(.ref x0), (.ref x1)] .null) (E_el : Exa Z h0 el kOA) (I_x0 : Ins Z h0 x0 kOB true) (I_x1 : Ins Z h0 x1 kOB true) (M_mr : own_Mi Z kOA mr) :
    MetFree l (⟨"java/util/List", "copyOf", "(Ljava/util/Collection;)Ljava/util/List;"⟩ : MethodName) (head1 (Jvm.Cond.code (⟨"java/util/List", "copyOf", "(Ljava/util/Collection;)Ljava/util/List;"⟩ : MethodName) jdk_40_method_48_code 1 (some (.object "java/util/List")) :: ws) ({ frames := 7, cells := 2, slots := 4, locals := 89 } : Room)) (fun a U => a = #[(.ref r0)] ∧ Z.Warmed39 U.vm ∧ U.heap = h0) (fun _ _ _ _ _ => True) (fun _ U o U' => ∃ v L, o = .returned v ∧ Q_co2_2 Z r0 el kel x0 x1 mr h0 n0 v U'.heap L ∧ FrameEnd U o U' L ({ frames := 7, cells := 2, slots := 4, locals := 89 } : Room).cells ({ frames := 7, cells := 2, slots := 4, locals := 89 } : Room).slots) := by
  refine MetFree.of_bodySF (plainFor_of_name pn14) hisR ?_
  intro p e s m args below meth c s₁ Bd hml0 hP hK
  obtain ⟨rfl, hZ, hh⟩ := hP
  have hx := Bd.exec
  have hby := Bd.bytes
  have hml : c.maxLocals = 1 := hml0
  have hown : s.vm.findClass "java/util/List" = some m.cls := findClass_of_methodNamed Bd.named
  have hnm := (name_of_methodNamed Bd.named Bd.method).1
  have X0 : Stand p l e ({ frames := 7, cells := 2, slots := 4, locals := 89 } : Room) s m #[(.ref r0)] below meth c s₁ [] 0 0 := Stand.of_body Bd
  have e0 : s₁.heap = h0 := by rw [← hh, Bd.state]; rfl
  have N0 := Fr.nil n0
  have pre0 : ∀ t, Steps p.tables e below (s₁.setTop (mkF m 0 #[oR r0] [])) t → Steps p.tables e below (s₁.setTop (entryFrame m #[(.ref r0)] 1)) t := fun t k => castTop (ef_co2_2 m r0) k
  obtain ⟨_, T101, L101, X101, hQ101, st101⟩ := own_cS X0 hx hZ hw hown (W := 0) (rm_lc2_2 l Z a0 hw [] r0 el kel x0 x1 mr h0 n0 Z0 E_r0 F_elementData_r0 F_size_r0 V_el E_el I_x0 I_x1 M_mr) (by decide) (by decide) (by decide) 220 rfl 221 rfl 222 rfl 223 rfl e0 (g := (mkF m 1 #[oR r0] [(.ref r0)])) rfl (by rw [hml]; rfl) (argsL := [(.ref r0)]) (rest := []) (lenOf pd16 rfl) rfl (Nat.le_of_eq rfl) (hb hby d33_1) rfl (cN := 2) rfl (by decide) (sN := 4) rfl (by decide)
  obtain ⟨LL_101, rfl, Nq101, P101_0, P101_1, P101_2, P101_3, P101_4⟩ := hQ101
  have N101 := Fr.app N0 Nq101
  have g_LL_101 : n0 ≤ LL_101 := Nat.le_trans Z0 P101_1
  have sz_LL_101 : h0.size ≤ LL_101 := Nat.le_trans (Keep.refl h0 []).1 P101_1
  have ZZ102 : n0 ≤ T101.heap.size := Nat.le_trans Z0 P101_0.1
  have KK103 : Keep h0 T101.heap [] := Keep.trans (Keep.refl h0 []) P101_0 all0
  obtain ⟨fs, hr, hrun, hended, hW, hsame⟩ := X101.leave (v := some (.ref LL_101)) (fun h => by rw [Bd.returns] at h; cases h)
  refine ⟨_, _, pre0 _ ?_, hrun, hended, _, _, rfl, ?_, ⟨_, rfl⟩, hW, hsame.mono (by decide) (by decide)⟩
  · show own_S p e below s₁ m 0 #[oR r0] [] _
    refine XS.aloadN X0.here hx rfl (hb hby d33_0) rfl rfl ?_
    show own_S p e below s₁ m 1 _ [(.ref r0)] _
    refine st101.trans ?_
    show own_S p e below T101 m 4 _ [(.ref LL_101)] _
    exact retOut X101 hx Bd.returns rfl (Or.inr (Or.inr (Or.inr (Or.inr ⟨rfl, rfl, rfl⟩)))) (hb hby d33_4) hr
  · show Q_co2_2 Z r0 el kel x0 x1 mr h0 n0 _ T101.heap _
    exact ⟨LL_101, rfl, N101, KK103, sz_LL_101, P101_2, P101_3, P101_4⟩
theorem own_fi {Z : State} {hp : Heap} {a : Addr} {K n d : String} {x y : Int32} (h : x = y) (F : Fld Z hp a K n d (.int x)) : Fld Z hp a K n d (.int y) := h ▸ F
theorem d16_0 : decode jdk_30_method_1_code 0 = .ok (.aload_n 0, 1) := by decide +kernel
theorem d16_1 : decode jdk_30_method_1_code 1 = .ok (.invokespecial 1, 3) := by decide +kernel
theorem d16_4 : decode jdk_30_method_1_code 4 = .ok (.return_, 1) := by decide +kernel
theorem pn15 : plainName "java/lang/Record" = true := by first | (simp [plainName, overriddenIn]; done) | decide +kernel
theorem efm16 (m : MethodId) (r0 : Addr) : entryFrame m #[(.ref r0)] 1 = mkF m 0 #[oR r0] [] := by first | (simp [entryFrame, mkF, argsToLocals, Value.category]; done) | rfl
def Qm16 (Z : State) (r0 : Addr) (h0 : Heap) (n0 : Nat) (v : Option Value) (h : Heap) (L : List Loc) : Prop := v = none ∧ Fr n0 L ∧ (h = h0)
set_option maxRecDepth 65536 in
set_option maxHeartbeats 40000000 in
theorem rmm16 (l : Launch) (Z : State) (a0 : Array Value) (hw : own_HW Z a0) (ws : List Jvm.Cond) (r0 : Addr) (h0 : Heap) (n0 : Nat) (Z0 : n0 ≤ h0.size)  :
    MetFree l (⟨"java/lang/Record", "<init>", "()V"⟩ : MethodName) (head1 (Jvm.Cond.code (⟨"java/lang/Record", "<init>", "()V"⟩ : MethodName) jdk_30_method_1_code 1 none :: ws) ({ frames := 1, cells := 0, slots := 0, locals := 12 } : Room)) (fun a U => a = #[(.ref r0)] ∧ Z.Warmed39 U.vm ∧ U.heap = h0) (fun _ _ _ _ _ => True) (fun _ U o U' => ∃ v L, o = .returned v ∧ Qm16 Z r0 h0 n0 v U'.heap L ∧ FrameEnd U o U' L ({ frames := 1, cells := 0, slots := 0, locals := 12 } : Room).cells ({ frames := 1, cells := 0, slots := 0, locals := 12 } : Room).slots) := by
  refine MetFree.of_bodySF (plainFor_of_name pn15) hisR ?_
  intro p e s m args below meth c s₁ Bd hml0 hP hK
  obtain ⟨rfl, hZ, hh⟩ := hP
  have hx := Bd.exec
  have hby := Bd.bytes
  have hml : c.maxLocals = 1 := hml0
  have hown : s.vm.findClass "java/lang/Record" = some m.cls := findClass_of_methodNamed Bd.named
  have hnm := (name_of_methodNamed Bd.named Bd.method).1
  have X0 : Stand p l e ({ frames := 1, cells := 0, slots := 0, locals := 12 } : Room) s m #[(.ref r0)] below meth c s₁ [] 0 0 := Stand.of_body Bd
  have e0 : s₁.heap = h0 := by rw [← hh, Bd.state]; rfl
  have N0 := Fr.nil n0
  have pre0 : ∀ t, Steps p.tables e below (s₁.setTop (mkF m 0 #[oR r0] [])) t → Steps p.tables e below (s₁.setTop (entryFrame m #[(.ref r0)] 1)) t := fun t k => castTop (efm16 m r0) k
  obtain ⟨T101, X101, e101, st101⟩ := initO X0 hx hZ hown (own_w hw 107 rfl) (own_w hw 19 rfl) (own_w hw 20 rfl) e0 (g := (mkF m 1 #[oR r0] [(.ref r0)])) rfl (by rw [hml]; rfl) rfl (hb hby d16_1) (by decide) (W := 0) (by show 2 * 0 + _ ≤ _; exact Nat.le_of_eq rfl) (by decide)
  obtain ⟨fs, hr, hrun, hended, hW, hsame⟩ := X101.leave (v := none) (fun _ => rfl)
  refine ⟨_, _, pre0 _ ?_, hrun, hended, _, _, rfl, ?_, ⟨_, rfl⟩, hW, hsame.mono (by decide) (by decide)⟩
  · show own_S p e below s₁ m 0 #[oR r0] [] _
    refine XS.aloadN X0.here hx rfl (hb hby d16_0) rfl rfl ?_
    show own_S p e below s₁ m 1 _ [(.ref r0)] _
    refine st101 _ ?_
    show own_S p e below T101 m 4 _ [] _
    exact X101.returnOut hx Bd.returns (hb hby d16_4) hr
  · show Qm16 Z r0 h0 n0 _ T101.heap _
    rw [e101]
    exact ⟨rfl, N0, rfl⟩
theorem d24_0 : decode k24 0 = .ok (.aload_n 0, 1) := by decide +kernel
theorem d24_1 : decode k24 1 = .ok (.invokespecial 1, 3) := by decide +kernel
theorem d24_4 : decode k24 4 = .ok (.iload_n 1, 1) := by decide +kernel
theorem d24_5 : decode k24 5 = .ok (.ifCond .le 14, 3) := by decide +kernel
theorem d24_8 : decode k24 8 = .ok (.aload_n 0, 1) := by decide +kernel
theorem d24_9 : decode k24 9 = .ok (.iload_n 1, 1) := by decide +kernel
theorem d24_10 : decode k24 10 = .ok (.anewarray 7, 3) := by decide +kernel
theorem d24_13 : decode k24 13 = .ok (.putfield 9, 3) := by decide +kernel
theorem d24_16 : decode k24 16 = .ok (.goto 44, 3) := by decide +kernel
theorem d24_60 : decode k24 60 = .ok (.return_, 1) := by decide +kernel
theorem ef_ai2 (m : MethodId) (r0 : Addr) : entryFrame m #[(.ref r0), (.int 2)] 2 = mkF m 0 #[oR r0, oI 2] [] := by first | (simp [entryFrame, mkF, argsToLocals, Value.category]; done) | rfl
def Q_ai2 (Z : State) (r0 : Addr) (w0 : Value) (w1 : Value) (w2 : Value) (h0 : Heap) (n0 : Nat) (v : Option Value) (h : Heap) (L : List Loc) : Prop := ∃ el : Addr, ∃ kel : ClassId, v = none ∧ Fr n0 L ∧ (Keep h0 h [r0]) ∧ (h0.size ≤ el) ∧ (Fld Z h r0 kAL "elementData" kOA (.ref el)) ∧ (Fld Z h r0 kAL "size" "I" w1) ∧ (Fld Z h r0 kABL "modCount" "I" (.int 0)) ∧ (Arv Z h el kel (.object kOB) (2 : Int32) [.null, .null] .null) ∧ (Exa Z h el kOA) ∧ (Ovr Z kel kOB)
set_option maxRecDepth 65536 in
set_option maxHeartbeats 40000000 in
theorem rm_ai2 (l : Launch) (Z : State) (a0 : Array Value) (hw : own_HW Z a0) (ws : List Jvm.Cond) (r0 : Addr) (w0 : Value) (w1 : Value) (w2 : Value) (h0 : Heap) (n0 : Nat) (Z0 : n0 ≤ h0.size) (E_r0 : Exa Z h0 r0 kAL) (g_r0 : n0 ≤ r0) (F_elementData_r0 : Fld Z h0 r0 kAL "elementData" kOA w0) (F_size_r0 : Fld Z h0 r0 kAL "size" "I" w1) (F_modCount_r0 : Fld Z h0 r0 kABL "modCount" "I" w2) :
    MetFree l (⟨kAL, "<init>", "(I)V"⟩ : MethodName) (head1 (Jvm.Cond.code (⟨kAL, "<init>", "(I)V"⟩ : MethodName) jdk_38_method_1_code 2 none :: ws) ({ frames := 3, cells := 1, slots := 2, locals := 36 } : Room)) (fun a U => a = #[(.ref r0), (.int 2)] ∧ Z.Warmed39 U.vm ∧ U.heap = h0) (fun _ _ _ _ _ => True) (fun _ U o U' => ∃ v L, o = .returned v ∧ Q_ai2 Z r0 w0 w1 w2 h0 n0 v U'.heap L ∧ FrameEnd U o U' L ({ frames := 3, cells := 1, slots := 2, locals := 36 } : Room).cells ({ frames := 3, cells := 1, slots := 2, locals := 36 } : Room).slots) := by
  refine MetFree.of_bodySF (plainFor_of_name pn2) hisR ?_
  intro p e s m args below meth c s₁ Bd hml0 hP hK
  obtain ⟨rfl, hZ, hh⟩ := hP
  have hx := Bd.exec
  have hby := Bd.bytes
  have hml : c.maxLocals = 2 := hml0
  have hown : s.vm.findClass kAL = some m.cls := findClass_of_methodNamed Bd.named
  have hnm := (name_of_methodNamed Bd.named Bd.method).1
  have X0 : Stand p l e ({ frames := 3, cells := 1, slots := 2, locals := 36 } : Room) s m #[(.ref r0), (.int 2)] below meth c s₁ [] 0 0 := Stand.of_body Bd
  have e0 : s₁.heap = h0 := by rw [← hh, Bd.state]; rfl
  have N0 := Fr.nil n0
  have pre0 : ∀ t, Steps p.tables e below (s₁.setTop (mkF m 0 #[oR r0, oI 2] [])) t → Steps p.tables e below (s₁.setTop (entryFrame m #[(.ref r0), (.int 2)] 2)) t := fun t k => castTop (ef_ai2 m r0) k
  obtain ⟨_, T101, L101, X101, hQ101, st101⟩ := own_cC X0 hx hZ hw hown (b := r0) (W := 0) (rmm2 l Z a0 hw [] r0 w0 w1 w2 h0 n0 Z0 E_r0 g_r0 F_elementData_r0 F_size_r0 F_modCount_r0) (by decide) (by decide) (by decide) rfl 6 rfl 7 rfl 11 rfl 10 rfl e0 (g := (mkF m 1 #[oR r0, oI 2] [(.ref r0)])) rfl (by rw [hml]; rfl) (argsL := []) (rest := []) (lenOf pd0 rfl) rfl (Nat.le_of_eq rfl) (hb hby d24_1) rfl (cN := 0) rfl (by decide) (sN := 0) rfl (by decide)
  obtain ⟨rfl, Nq101, P101_0, P101_1, P101_2, P101_3⟩ := hQ101
  have N101 := Fr.app N0 Nq101
  have ZZ102 : n0 ≤ T101.heap.size := Nat.le_trans Z0 P101_0.1
  have KK103 : Keep h0 T101.heap [r0] := Keep.trans (Keep.refl h0 [r0]) P101_0 (allS (Or.inl (List.mem_of_getElem? (i := 0) rfl)) all0)
  obtain ⟨T104, h104, k104, X104, e104, E104, A104, Ea104, O104, st104⟩ := newRE X101 hx hZ hown (own_w hw 84 rfl) (own_w hw 85 rfl) rfl (g := (mkF m 10 #[oR r0, oI 2] [(.int 2), (.ref r0)])) rfl (hb hby d24_10) rfl (by decide) (cap := 2) (by decide) (by decide) (by decide) (by decide) (ad := kOA) (by decide)
  obtain ⟨b104, g104⟩ : ∃ z, z = T101.heap.size := ⟨_, rfl⟩
  rw [← g104] at A104 Ea104 st104
  have g_b104 : n0 ≤ b104 := Nat.le_trans ZZ102 (Nat.le_of_eq g104.symm)
  have sz_b104 : h0.size ≤ b104 := Nat.le_trans KK103.1 (Nat.le_of_eq g104.symm)
  have ZZ105 : n0 ≤ h104.size := Nat.le_trans ZZ102 E104.1
  have KK106 : Keep h0 h104 [r0] := KK103.ext E104
  have V_b104 : Arv Z h104 b104 k104 (.object kOB) (2 : Int32) [.null, .null] .null := (Arv.new A104 (by decide)).pad (pad_rep [] .null 2)
  have Fc107 := ((E_r0.keep P101_0).ext E104)
  obtain ⟨T108, h108, X108, e108, W108, st108⟩ := putF X104 hx hZ hown (host := "") (Or.inl (own_w hw 24 rfl)) Via.refl e104 (P101_1.ext E104) Fc107 (Or.inl (own_w hw 25 rfl)) (own_w hw 1 rfl) (ty := (.array (.object kOB))) (by decide) rfl rfl (g := (mkF m 13 #[oR r0, oI 2] [(.ref b104), (.ref r0)])) rfl rfl (hb hby d24_13)
  have Fw108 := (P101_1.ext E104).same W108
  have N108 := Fr.snoc X108 N101 g_r0
  have ZZ109 : n0 ≤ h108.size := Nat.le_trans ZZ105 (Nat.le_of_eq W108.size.symm)
  have KK110 : Keep h0 h108 [r0] := KK106.wr W108 (Or.inl (List.mem_of_getElem? (i := 0) rfl))
  have nq111 : b104 ≠ r0 := (ne_exa (Ea104.wr W108) (Fc107.wr W108) (by decide))
  obtain ⟨fs, hr, hrun, hended, hW, hsame⟩ := X108.leave (v := none) (fun _ => rfl)
  refine ⟨_, _, pre0 _ ?_, hrun, hended, _, _, rfl, ?_, ⟨_, rfl⟩, hW, hsame.mono (by decide) (by decide)⟩
  · show own_S p e below s₁ m 0 #[oR r0, oI 2] [] _
    refine XS.aloadN X0.here hx rfl (hb hby d24_0) rfl rfl ?_
    show own_S p e below s₁ m 1 _ [(.ref r0)] _
    refine st101.trans ?_
    show own_S p e below T101 m 4 _ [] _
    refine XS.iloadN X101.here hx rfl (hb hby d24_4) rfl ?_
    refine XS.ifNo X101.here hx rfl (hb hby d24_5) rfl ((if0 _ _).trans (tlt (by decide : (0 : Int32) < (2 : Int32))).2.2.2) ?_
    refine XS.aloadN X101.here hx rfl (hb hby d24_8) rfl rfl ?_
    refine XS.iloadN X101.here hx rfl (hb hby d24_9) rfl ?_
    show own_S p e below T101 m 10 _ [(.int 2), (.ref r0)] _
    refine st104 _ ?_
    show own_S p e below T104 m 13 #[oR r0, oI 2] [(.ref b104), (.ref r0)] _
    refine st108 _ ?_
    show own_S p e below T108 m 16 _ [] _
    refine XS.goto X108.here hx rfl (pc0 := 16) (pc' := 60) rfl (hb hby d24_16) (by decide) (by decide) ?_
    show own_S p e below T108 m 60 _ [] _
    exact X108.returnOut hx Bd.returns (hb hby d24_60) hr
  · show Q_ai2 Z r0 w0 w1 w2 h0 n0 _ T108.heap _
    rw [e108]
    exact ⟨b104, k104, rfl, N108, KK110, sz_b104, Fw108, ((P101_2.ext E104).other W108 (Or.inr (sn2 hw))), ((P101_3.ext E104).other W108 (Or.inr (Ne.symm (sn0 hw)))), (V_b104.other W108 nq111), (Ea104.wr W108), O104⟩
theorem own_str {Z : State} {a0 : Array Value} (hw : own_HW Z a0) : ∀ a ∈ Bundle.stringAtoms, a.before a0 Z = true := by
  intro a ha
  simp only [Bundle.stringAtoms, List.mem_cons, List.not_mem_nil, or_false] at ha
  rcases ha with rfl | rfl | rfl | rfl | rfl | rfl | rfl
  · exact (own_w hw 92 rfl)
  · exact (own_w hw 93 rfl)
  · exact (own_w hw 94 rfl)
  · exact (own_w hw 95 rfl)
  · exact (own_w hw 96 rfl)
  · exact (own_w hw 97 rfl)
  · exact (own_w hw 98 rfl)
theorem pd18 : parseMethodDescriptor "(Ljava/lang/Object;Ljava/lang/String;)Ljava/lang/Object;" = some ⟨[(.object kOB), (.object "java/lang/String")], some (.object kOB)⟩ := by decide +kernel
theorem pd19 : parseMethodDescriptor "()I" = some ⟨[], some .int⟩ := by decide +kernel
theorem pd20 : parseMethodDescriptor "(I)V" = some ⟨[.int], none⟩ := by decide +kernel
theorem pd21 : parseMethodDescriptor "()Ljava/util/Iterator;" = some ⟨[], some (.object "java/util/Iterator")⟩ := by decide +kernel
theorem pd22 : parseMethodDescriptor "()Ljava/lang/Object;" = some ⟨[], some (.object kOB)⟩ := by decide +kernel
theorem pd23 : parseMethodDescriptor "()D" = some ⟨[], some .double⟩ := by decide +kernel
theorem pd24 : parseMethodDescriptor "(D)Z" = some ⟨[.double], some .boolean⟩ := by decide +kernel
theorem pd25 : parseMethodDescriptor "(Ljava/lang/Object;)Z" = some ⟨[(.object kOB)], some .boolean⟩ := by decide +kernel
theorem sn11 {Z : State} {a0 : Array Value} (hw : own_HW Z a0) : Jvm.RoadKit.slotOf Z kMO "vectors" "Ljava/util/List;" ≠ Jvm.RoadKit.slotOf Z kMO "name" "Ljava/lang/String;" := slot_ne (Or.inr (own_w hw 320 rfl)) (Or.inr (own_w hw 318 rfl)) (by decide) (t := (.object "java/util/List")) (t' := (.object "java/lang/String")) (by decide) (by decide)
theorem d15_0 : decode k15 0 = .ok (.aload_n 0, 1) := by decide +kernel
theorem d15_1 : decode k15 1 = .ok (.invokespecial 1, 3) := by decide +kernel
theorem d15_4 : decode k15 4 = .ok (.aload_n 1, 1) := by decide +kernel
theorem d15_5 : decode k15 5 = .ok (.ldc 7, 2) := by decide +kernel
theorem d15_7 : decode k15 7 = .ok (.invokestatic 9, 3) := by decide +kernel
theorem d15_10 : decode k15 10 = .ok (.pop, 1) := by decide +kernel
theorem d15_11 : decode k15 11 = .ok (.aload_n 2, 1) := by decide +kernel
theorem d15_12 : decode k15 12 = .ok (.invokeinterface 15 1, 5) := by decide +kernel
theorem d15_17 : decode k15 17 = .ok (.ifCond .eq 17, 3) := by decide +kernel
theorem d15_34 : decode k15 34 = .ok (.aload_n 2, 1) := by decide +kernel
theorem d15_35 : decode k15 35 = .ok (.iconst 0, 1) := by decide +kernel
theorem d15_36 : decode k15 36 = .ok (.invokeinterface 30 2, 5) := by decide +kernel
theorem d15_41 : decode k15 41 = .ok (.checkcast 16, 3) := by decide +kernel
theorem d15_44 : decode k15 44 = .ok (.invokeinterface 34 1, 5) := by decide +kernel
theorem d15_49 : decode k15 49 = .ok (.istore_n 3, 1) := by decide +kernel
theorem d15_50 : decode k15 50 = .ok (.new 38, 3) := by decide +kernel
theorem d15_53 : decode k15 53 = .ok (.dup, 1) := by decide +kernel
theorem d15_54 : decode k15 54 = .ok (.aload_n 2, 1) := by decide +kernel
theorem d15_55 : decode k15 55 = .ok (.invokeinterface 34 1, 5) := by decide +kernel
theorem d15_60 : decode k15 60 = .ok (.invokespecial 40, 3) := by decide +kernel
theorem d15_63 : decode k15 63 = .ok (.astore 4, 2) := by decide +kernel
theorem d15_65 : decode k15 65 = .ok (.aload_n 2, 1) := by decide +kernel
theorem d15_66 : decode k15 66 = .ok (.invokeinterface 43 1, 5) := by decide +kernel
theorem d15_71 : decode k15 71 = .ok (.astore 5, 2) := by decide +kernel
theorem d15_73 : decode k15 73 = .ok (.aload 5, 2) := by decide +kernel
theorem d15_75 : decode k15 75 = .ok (.invokeinterface 47 1, 5) := by decide +kernel
theorem d15_80 : decode k15 80 = .ok (.ifCond .eq 125, 3) := by decide +kernel
theorem d15_83 : decode k15 83 = .ok (.aload 5, 2) := by decide +kernel
theorem d15_85 : decode k15 85 = .ok (.invokeinterface 52 1, 5) := by decide +kernel
theorem d15_90 : decode k15 90 = .ok (.checkcast 16, 3) := by decide +kernel
theorem d15_93 : decode k15 93 = .ok (.astore 6, 2) := by decide +kernel
theorem d15_95 : decode k15 95 = .ok (.aload 6, 2) := by decide +kernel
theorem d15_97 : decode k15 97 = .ok (.invokeinterface 34 1, 5) := by decide +kernel
theorem d15_102 : decode k15 102 = .ok (.iload_n 3, 1) := by decide +kernel
theorem d15_103 : decode k15 103 = .ok (.if_icmp .eq 25, 3) := by decide +kernel
theorem d15_128 : decode k15 128 = .ok (.aload 6, 2) := by decide +kernel
theorem d15_130 : decode k15 130 = .ok (.invokeinterface 43 1, 5) := by decide +kernel
theorem d15_135 : decode k15 135 = .ok (.astore 7, 2) := by decide +kernel
theorem d15_137 : decode k15 137 = .ok (.aload 7, 2) := by decide +kernel
theorem d15_139 : decode k15 139 = .ok (.invokeinterface 47 1, 5) := by decide +kernel
theorem d15_144 : decode k15 144 = .ok (.ifCond .eq 45, 3) := by decide +kernel
theorem d15_147 : decode k15 147 = .ok (.aload 7, 2) := by decide +kernel
theorem d15_149 : decode k15 149 = .ok (.invokeinterface 52 1, 5) := by decide +kernel
theorem d15_154 : decode k15 154 = .ok (.checkcast 59, 3) := by decide +kernel
theorem d15_157 : decode k15 157 = .ok (.invokevirtual 61, 3) := by decide +kernel
theorem d15_160 : decode k15 160 = .ok (.dstore 8, 2) := by decide +kernel
theorem d15_162 : decode k15 162 = .ok (.dload 8, 2) := by decide +kernel
theorem d15_164 : decode k15 164 = .ok (.invokestatic 65, 3) := by decide +kernel
theorem d15_167 : decode k15 167 = .ok (.ifCond .ne 19, 3) := by decide +kernel
theorem d15_186 : decode k15 186 = .ok (.goto (-49), 3) := by decide +kernel
theorem d15_189 : decode k15 189 = .ok (.aload 4, 2) := by decide +kernel
theorem d15_191 : decode k15 191 = .ok (.aload 6, 2) := by decide +kernel
theorem d15_193 : decode k15 193 = .ok (.invokestatic 72, 3) := by decide +kernel
theorem d15_196 : decode k15 196 = .ok (.invokeinterface 76 2, 5) := by decide +kernel
theorem d15_201 : decode k15 201 = .ok (.pop, 1) := by decide +kernel
theorem d15_202 : decode k15 202 = .ok (.goto (-129), 3) := by decide +kernel
theorem d15_205 : decode k15 205 = .ok (.aload 4, 2) := by decide +kernel
theorem d15_207 : decode k15 207 = .ok (.invokestatic 72, 3) := by decide +kernel
theorem d15_210 : decode k15 210 = .ok (.astore_n 2, 1) := by decide +kernel
theorem d15_211 : decode k15 211 = .ok (.aload_n 0, 1) := by decide +kernel
theorem d15_212 : decode k15 212 = .ok (.aload_n 1, 1) := by decide +kernel
theorem d15_213 : decode k15 213 = .ok (.putfield 80, 3) := by decide +kernel
theorem d15_216 : decode k15 216 = .ok (.aload_n 0, 1) := by decide +kernel
theorem d15_217 : decode k15 217 = .ok (.aload_n 2, 1) := by decide +kernel
theorem d15_218 : decode k15 218 = .ok (.putfield 85, 3) := by decide +kernel
theorem d15_221 : decode k15 221 = .ok (.return_, 1) := by decide +kernel
theorem pn16 : plainName kMO = true := by first | (simp [plainName, overriddenIn]; done) | decide +kernel
theorem efm15 (m : MethodId) (r0 : Addr) (r1 : Addr) (r2 : Addr) : entryFrame m #[(.ref r0), (.ref r1), (.ref r2)] 10 = mkF m 0 #[oR r0, oR r1, oR r2, oU, oU, oU, oU, oU, oU, oU] [] := by first | (simp [entryFrame, mkF, argsToLocals, Value.category]; done) | rfl
def Qm15 (Z : State) (r0 : Addr) (r1 : Addr) (r2 : Addr) (w0 : Value) (w1 : Value) (el : Addr) (v0 : Addr) (v1 : Addr) (el0 : Addr) (el1 : Addr) (x00 : Addr) (x01 : Addr) (x02 : Addr) (x10 : Addr) (x11 : Addr) (x12 : Addr) (kel : ClassId) (kel0 : ClassId) (kel1 : ClassId) (d00 : UInt64) (d01 : UInt64) (d02 : UInt64) (d10 : UInt64) (d11 : UInt64) (d12 : UInt64) (mr : Addr) (h0 : Heap) (n0 : Nat) (v : Option Value) (h : Heap) (L : List Loc) : Prop := ∃ LL : Addr, ∃ NN0 : Addr, ∃ NN1 : Addr, ∃ A0 : Addr, ∃ A1 : Addr, ∃ kA0 : ClassId, ∃ kA1 : ClassId, v = none ∧ Fr n0 L ∧ (Keep h0 h [r0]) ∧ (h0.size ≤ LL) ∧ (h0.size ≤ NN0) ∧ (h0.size ≤ NN1) ∧ (h0.size ≤ A0) ∧ (h0.size ≤ A1) ∧ (Fld Z h r0 kMO "name" "Ljava/lang/String;" (.ref r1)) ∧ (Fld Z h r0 kMO "vectors" "Ljava/util/List;" (.ref LL)) ∧ (Exa Z h LL kL12) ∧ (Fld Z h LL kL12 "e0" "Ljava/lang/Object;" (.ref NN0)) ∧ (Fld Z h LL kL12 "e1" "Ljava/lang/Object;" (.ref NN1)) ∧ (Exa Z h NN0 kLN) ∧ (Fld Z h NN0 kLN "elements" kOA (.ref A0)) ∧ (Fld Z h NN0 kLN "allowNulls" "Z" (.int 0)) ∧ (Arv Z h A0 kA0 (.object kOB) (3 : Int32) [(.ref x00), (.ref x01), (.ref x02)] .null) ∧ (Exa Z h A0 kOA) ∧ (Exa Z h NN1 kLN) ∧ (Fld Z h NN1 kLN "elements" kOA (.ref A1)) ∧ (Fld Z h NN1 kLN "allowNulls" "Z" (.int 0)) ∧ (Arv Z h A1 kA1 (.object kOB) (3 : Int32) [(.ref x10), (.ref x11), (.ref x12)] .null) ∧ (Exa Z h A1 kOA)
set_option maxRecDepth 65536 in
set_option maxHeartbeats 40000000 in
theorem rmm15 (l : Launch) (Z : State) (a0 : Array Value) (hw : own_HW Z a0) (ws : List Jvm.Cond) (r0 : Addr) (r1 : Addr) (r2 : Addr) (w0 : Value) (w1 : Value) (el : Addr) (v0 : Addr) (v1 : Addr) (el0 : Addr) (el1 : Addr) (x00 : Addr) (x01 : Addr) (x02 : Addr) (x10 : Addr) (x11 : Addr) (x12 : Addr) (kel : ClassId) (kel0 : ClassId) (kel1 : ClassId) (d00 : UInt64) (d01 : UInt64) (d02 : UInt64) (d10 : UInt64) (d11 : UInt64) (d12 : UInt64) (mr : Addr) (h0 : Heap) (n0 : Nat) (Z0 : n0 ≤ h0.size) (E_r0 : Exa Z h0 r0 kMO) (g_r0 : n0 ≤ r0) (F_name_r0 : Fld Z h0 r0 kMO "name" "Ljava/lang/String;" w0) (F_vectors_r0 : Fld Z h0 r0 kMO "vectors" "Ljava/util/List;" w1) (E_r2 : Exa Z h0 r2 kAL) (F_elementData_r2 : Fld Z h0 r2 kAL "elementData" kOA (.ref el)) (F_size_r2 : Fld Z h0 r2 kAL "size" "I" (.int 2)) (F_modCount_r2 : Fld Z h0 r2 kABL "modCount" "I" (.int 2)) (V_el : Arv Z h0 el kel (.object kOB) (10 : Int32) [(.ref v0), (.ref v1), .null, .null] .null) (E_el : Exa Z h0 el kOA) (E_v0 : Exa Z h0 v0 kAL) (F_elementData_v0 : Fld Z h0 v0 kAL "elementData" kOA (.ref el0)) (F_size_v0 : Fld Z h0 v0 kAL "size" "I" (.int 3)) (F_modCount_v0 : Fld Z h0 v0 kABL "modCount" "I" (.int 3)) (V_el0 : Arv Z h0 el0 kel0 (.object kOB) (10 : Int32) [(.ref x00), (.ref x01), (.ref x02), .null] .null) (E_el0 : Exa Z h0 el0 kOA) (E_v1 : Exa Z h0 v1 kAL) (F_elementData_v1 : Fld Z h0 v1 kAL "elementData" kOA (.ref el1)) (F_size_v1 : Fld Z h0 v1 kAL "size" "I" (.int 3)) (F_modCount_v1 : Fld Z h0 v1 kABL "modCount" "I" (.int 3)) (V_el1 : Arv Z h0 el1 kel1 (.object kOB) (10 : Int32) [(.ref x10), (.ref x11), (.ref x12), .null] .null) (E_el1 : Exa Z h0 el1 kOA) (E_x00 : Exa Z h0 x00 kDB) (F_value_x00 : Fld Z h0 x00 kDB "value" "D" (.double d00)) (E_x01 : Exa Z h0 x01 kDB) (F_value_x01 : Fld Z h0 x01 kDB "value" "D" (.double d01)) (E_x02 : Exa Z h0 x02 kDB) (F_value_x02 : Fld Z h0 x02 kDB "value" "D" (.double d02)) (E_x10 : Exa Z h0 x10 kDB) (F_value_x10 : Fld Z h0 x10 kDB "value" "D" (.double d10)) (E_x11 : Exa Z h0 x11 kDB) (F_value_x11 : Fld Z h0 x11 kDB "value" "D" (.double d11)) (E_x12 : Exa Z h0 x12 kDB) (F_value_x12 : Fld Z h0 x12 kDB "value" "D" (.double d12)) (hOld : Old Z n0 h0) (M_mr : own_Mi Z kOA mr) (hn_d00 : NoNaN64 d00) (hf_d00 : ¬ (0 : Int32) < (cmpValue (FP.dcmp (d00 &&& 0x7fffffffffffffff) (9218868437227405311 : UInt64)) .g)) (hn_d01 : NoNaN64 d01) (hf_d01 : ¬ (0 : Int32) < (cmpValue (FP.dcmp (d01 &&& 0x7fffffffffffffff) (9218868437227405311 : UInt64)) .g)) (hn_d02 : NoNaN64 d02) (hf_d02 : ¬ (0 : Int32) < (cmpValue (FP.dcmp (d02 &&& 0x7fffffffffffffff) (9218868437227405311 : UInt64)) .g)) (hn_d10 : NoNaN64 d10) (hf_d10 : ¬ (0 : Int32) < (cmpValue (FP.dcmp (d10 &&& 0x7fffffffffffffff) (9218868437227405311 : UInt64)) .g)) (hn_d11 : NoNaN64 d11) (hf_d11 : ¬ (0 : Int32) < (cmpValue (FP.dcmp (d11 &&& 0x7fffffffffffffff) (9218868437227405311 : UInt64)) .g)) (hn_d12 : NoNaN64 d12) (hf_d12 : ¬ (0 : Int32) < (cmpValue (FP.dcmp (d12 &&& 0x7fffffffffffffff) (9218868437227405311 : UInt64)) .g)) :
    MetFree l (⟨kMO, "<init>", "(Ljava/lang/String;Ljava/util/List;)V"⟩ : MethodName) (head1 (Jvm.Cond.code (⟨kMO, "<init>", "(Ljava/lang/String;Ljava/util/List;)V"⟩ : MethodName) prog_29_method_1_code 10 none :: ws) ({ frames := 9, cells := 15, slots := 57, locals := 116 } : Room)) (fun a U => a = #[(.ref r0), (.ref r1), (.ref r2)] ∧ Z.Warmed39 U.vm ∧ U.heap = h0) (fun _ _ _ _ _ => True) (fun _ U o U' => ∃ v L, o = .returned v ∧ Qm15 Z r0 r1 r2 w0 w1 el v0 v1 el0 el1 x00 x01 x02 x10 x11 x12 kel kel0 kel1 d00 d01 d02 d10 d11 d12 mr h0 n0 v U'.heap L ∧ ReturnedEndW U o U' L ({ frames := 9, cells := 15, slots := 57, locals := 116 } : Room).cells ({ frames := 9, cells := 15, slots := 57, locals := 116 } : Room).slots) := by
  refine MetFree.of_bodySF (plainFor_of_name pn16) hisR ?_
  intro p e s m args below meth c s₁ Bd hml0 hP hK
  obtain ⟨rfl, hZ, hh⟩ := hP
  have hx := Bd.exec
  have hby := Bd.bytes
  have hml : c.maxLocals = 10 := hml0
  have hown : s.vm.findClass kMO = some m.cls := findClass_of_methodNamed Bd.named
  have hnm := (name_of_methodNamed Bd.named Bd.method).1
  have X0 : Stand p l e ({ frames := 9, cells := 15, slots := 57, locals := 116 } : Room) (s.setVm s.vm) m #[(.ref r0), (.ref r1), (.ref r2)] below meth c s₁ [] 0 0 := Stand.of_body Bd
  have e0 : s₁.heap = h0 := by rw [← hh, Bd.state]; rfl
  have N0 := Fr.nil n0
  have pre0 : ∀ t, Steps p.tables e below (s₁.setTop (mkF m 0 #[oR r0, oR r1, oR r2, oU, oU, oU, oU, oU, oU, oU] [])) t → Steps p.tables e below (s₁.setTop (entryFrame m #[(.ref r0), (.ref r1), (.ref r2)] 10)) t := fun t k => castTop (efm15 m r0 r1 r2) k
  have hS0 := (State.WarmedH.refl s).since 0
  replace hZ : Z.Warmed39 (s.setVm s.vm).vm := hZ
  replace hown : (s.setVm s.vm).vm.findClass kMO = some m.cls := hown
  obtain ⟨_, T101, L101, X101, hQ101, st101⟩ := own_cC X0 hx hZ hw hown (b := r0) (W := 0) (rmm16 l Z a0 hw [] r0 h0 n0 Z0 ) (by decide) (by decide) (by decide) rfl 102 rfl 103 rfl 106 rfl 105 rfl e0 (g := (mkF m 1 #[oR r0, oR r1, oR r2, oU, oU, oU, oU, oU, oU, oU] [(.ref r0)])) rfl (by rw [hml]; rfl) (argsL := []) (rest := []) (lenOf pd0 rfl) rfl (Nat.le_of_eq rfl) (hb hby d15_1) rfl (cN := 0) rfl (by decide) (sN := 0) rfl (by decide)
  obtain ⟨rfl, Nq101, P101_0⟩ := hQ101
  have N101 := Fr.app N0 Nq101
  obtain ⟨b102, T102, h102, k102, X102, e102, E102, hS102, hk102, hZ102, how102, st102⟩ := ldcS (s := s) (vm0 := s.vm) X101 hx hZ hown (own_w hw 108 rfl) (own_str hw) P101_0 hS0 (Nat.zero_le _) (g := (mkF m 5 #[oR r0, oR r1, oR r2, oU, oU, oU, oU, oU, oU, oU] [(.ref r1)])) rfl (hb hby d15_5) (n := 16) (by decide) (by decide) (by decide) (by decide)
  have ZZ103 : n0 ≤ h102.size := Nat.le_trans Z0 E102.1
  have KK104 : Keep h0 h102 [r0] := (Keep.refl h0 [r0]).ext E102
  obtain ⟨_, T105, L105, X105, hQ105, st105⟩ := own_cS X102 hx hZ102 hw how102 (W := 0) (rmm17 l Z a0 hw [] r1 b102 h102 n0 ZZ103 ) (by decide) (by decide) (by decide) 109 rfl 110 rfl 111 rfl 112 rfl e102 (g := (mkF m 7 #[oR r0, oR r1, oR r2, oU, oU, oU, oU, oU, oU, oU] [(.ref b102), (.ref r1)])) rfl (by rw [hml]; rfl) (argsL := [(.ref r1), (.ref b102)]) (rest := []) (lenOf pd18 rfl) rfl (Nat.le_of_eq rfl) (hb hby d15_7) rfl (cN := 2) rfl (by decide) (sN := 20) rfl (by decide)
  obtain ⟨rfl, Nq105, P105_0⟩ := hQ105
  have N105 := Fr.app N101 Nq105
  obtain ⟨_, T106, L106, X106, hQ106, st106⟩ := own_cI X105 hx hZ102 hw how102 (b := r2) (W := 0) (rmm18 l Z a0 hw [] r2 (2 : Int32) h102 n0 ZZ103 (F_size_r2.ext E102) (by decide)) (by decide) (by decide) (by decide) 113 rfl 114 rfl 115 rfl 116 rfl 117 rfl 118 rfl 119 rfl 59 rfl 120 rfl 2 rfl P105_0 (E_r2.ext E102) (g := (mkF m 12 #[oR r0, oR r1, oR r2, oU, oU, oU, oU, oU, oU, oU] [(.ref r2)])) rfl (by rw [hml]; rfl) (argsL := []) (rest := []) (lenOf pd15 rfl) rfl (Nat.le_of_eq rfl) (hb hby d15_12) rfl (cN := 2) rfl (by decide) (sN := 20) rfl (by decide)
  obtain ⟨rfl, Nq106, P106_0⟩ := hQ106
  have N106 := Fr.app N105 Nq106
  have Fc107 := (F_elementData_r2.ext E102)
  obtain ⟨_, T108, L108, X108, hQ108, st108⟩ := own_cI X106 hx hZ102 hw how102 (b := r2) (W := 0) (rmm19 l Z a0 hw [] r2 el v0 kel (10 : Int32) [(.ref v0), (.ref v1), .null, .null] (2 : Int32) h102 n0 ZZ103 Fc107 (V_el.ext E102) (⟨by decide, by decide⟩) rfl (F_size_r2.ext E102) (by decide) (E_r2.ext E102)) (by decide) (by decide) (by decide) 121 rfl 122 rfl 123 rfl 124 rfl 125 rfl 126 rfl 127 rfl 59 rfl 128 rfl 2 rfl P106_0 (E_r2.ext E102) (g := (mkF m 36 #[oR r0, oR r1, oR r2, oU, oU, oU, oU, oU, oU, oU] [(.int 0), (.ref r2)])) rfl (by rw [hml]; rfl) (argsL := [(.int 0)]) (rest := []) (lenOf pd7 rfl) rfl (Nat.le_of_eq rfl) (hb hby d15_36) rfl (cN := 2) rfl (by decide) (sN := 20) rfl (by decide)
  obtain ⟨rfl, Nq108, P108_0⟩ := hQ108
  have N108 := Fr.app N106 Nq108
  obtain ⟨T109, X109, e109, st109⟩ := castY X108 hx hZ102 how102 (own_w hw 141 rfl) P108_0 (Ins.of_exa (E_v0.ext E102) (own_w hw 59 rfl)) (g := (mkF m 41 #[oR r0, oR r1, oR r2, oU, oU, oU, oU, oU, oU, oU] [(.ref v0)])) rfl rfl (hb hby d15_41)
  obtain ⟨_, T110, L110, X110, hQ110, st110⟩ := own_cI X109 hx hZ102 hw how102 (b := v0) (W := 0) (rmm23 l Z a0 hw [] v0 (3 : Int32) h102 n0 ZZ103 (F_size_v0.ext E102)) (by decide) (by decide) (by decide) 142 rfl 143 rfl 144 rfl 145 rfl 146 rfl 147 rfl 148 rfl 59 rfl 149 rfl 2 rfl e109 (E_v0.ext E102) (g := (mkF m 44 #[oR r0, oR r1, oR r2, oU, oU, oU, oU, oU, oU, oU] [(.ref v0)])) rfl (by rw [hml]; rfl) (argsL := []) (rest := []) (lenOf pd19 rfl) rfl (Nat.le_of_eq rfl) (hb hby d15_44) rfl (cN := 2) rfl (by decide) (sN := 20) rfl (by decide)
  obtain ⟨rfl, Nq110, P110_0⟩ := hQ110
  have N110 := Fr.app N108 Nq110
  obtain ⟨T111, h111, X111, e111, E111, A111, D111, -, st111⟩ := newO X110 hx hZ102 how102 (own_w hw 150 rfl) (own_w hw 1 rfl) (own_w hw 2 rfl) P110_0 (g := (mkF m 50 #[oR r0, oR r1, oR r2, oI 3, oU, oU, oU, oU, oU, oU] [])) rfl (hb hby d15_50) (by decide) (by decide)
  obtain ⟨b111, g111⟩ : ∃ z, z = h102.size := ⟨_, rfl⟩
  rw [← g111] at A111 D111 st111
  have g_b111 : n0 ≤ b111 := Nat.le_trans ZZ103 (Nat.le_of_eq g111.symm)
  have sz_b111 : h0.size ≤ b111 := Nat.le_trans KK104.1 (Nat.le_of_eq g111.symm)
  have SK112 := Nat.le_trans hk102 E111.1
  have ZZ113 : n0 ≤ h111.size := Nat.le_trans ZZ103 E111.1
  have KK114 : Keep h0 h111 [r0] := KK104.ext E111
  have F_modCount_b111 : Fld Z h111 b111 kABL "modCount" "I" (.int 0) := D111 (Or.inl (own_w hw 22 rfl)) (ty := .int) (by decide)
  have F_elementData_b111 : Fld Z h111 b111 kAL "elementData" kOA .null := D111 (Or.inl (own_w hw 25 rfl)) (ty := (.array (.object kOB))) (by decide)
  have F_size_b111 : Fld Z h111 b111 kAL "size" "I" (.int 0) := D111 (Or.inl (own_w hw 64 rfl)) (ty := .int) (by decide)
  have Fc115 := (E_r2.keep KK114)
  have Fc116 := ((E_r0.ext E102).ext E111)
  have nq117 : r2 ≠ r0 := (ne_exa Fc115 Fc116 (by decide))
  have Fc118 := (F_size_r2.keep KK114 (ninS nq117 nin0))
  obtain ⟨_, T119, L119, X119, hQ119, st119⟩ := own_cI X111 hx hZ102 hw how102 (b := r2) (W := 2) (rmm23 l Z a0 hw [] r2 (2 : Int32) h111 n0 ZZ113 Fc118) (by decide) (by decide) (by decide) 142 rfl 143 rfl 144 rfl 145 rfl 146 rfl 147 rfl 148 rfl 59 rfl 149 rfl 2 rfl e111 Fc115 (g := (mkF m 55 #[oR r0, oR r1, oR r2, oI 3, oU, oU, oU, oU, oU, oU] [(.ref r2), (.ref b111), (.ref b111)])) rfl (by rw [hml]; rfl) (argsL := []) (rest := [(.ref b111), (.ref b111)]) (lenOf pd19 rfl) rfl (Nat.le_of_eq rfl) (hb hby d15_55) rfl (cN := 3) rfl (by decide) (sN := 23) rfl (by decide)
  obtain ⟨rfl, Nq119, P119_0⟩ := hQ119
  have N119 := Fr.app N110 Nq119
  obtain ⟨_, T120, L120, X120, hQ120, st120⟩ := own_cC X119 hx hZ102 hw how102 (b := b111) (W := 1) (rm_ai2 l Z a0 hw [] b111 .null (.int 0) (.int 0) h111 n0 ZZ113 A111 g_b111 F_elementData_b111 F_size_b111 F_modCount_b111) (by decide) (by decide) (by decide) rfl 151 rfl 152 rfl 153 rfl 2 rfl P119_0 (g := (mkF m 60 #[oR r0, oR r1, oR r2, oI 3, oU, oU, oU, oU, oU, oU] [(.int 2), (.ref b111), (.ref b111)])) rfl (by rw [hml]; rfl) (argsL := [(.int 2)]) (rest := [(.ref b111)]) (lenOf pd20 rfl) rfl (Nat.le_of_eq rfl) (hb hby d15_60) rfl (cN := 4) rfl (by decide) (sN := 25) rfl (by decide)
  obtain ⟨el_120, kel_120, rfl, Nq120, P120_0, P120_1, P120_2, P120_3, P120_4, P120_5, P120_6, P120_7⟩ := hQ120
  have N120 := Fr.app N119 Nq120
  have g_el_120 : n0 ≤ el_120 := Nat.le_trans ZZ113 P120_1
  have sz_el_120 : h0.size ≤ el_120 := Nat.le_trans KK114.1 P120_1
  have SK121 := Nat.le_trans SK112 P120_0.1
  have ZZ122 : n0 ≤ T120.heap.size := Nat.le_trans ZZ113 P120_0.1
  have KK123 : Keep h0 T120.heap [r0] := Keep.trans KK114 P120_0 (allS (Or.inr sz_b111) all0)
  have Fc124 := (E_r2.keep KK123)
  have Fc125 := (F_modCount_r2.keep KK123 (ninS nq117 nin0))
  obtain ⟨_, T126, L126, X126, hQ126, st126⟩ := own_cI X120 hx hZ102 hw how102 (b := r2) (W := 0) (rmm25 l Z a0 hw [] r2 (2 : Int32) T120.heap n0 ZZ122 Fc124 Fc125) (by decide) (by decide) (by decide) 154 rfl 155 rfl 156 rfl 157 rfl 158 rfl 159 rfl 160 rfl 59 rfl 161 rfl 2 rfl rfl Fc124 (g := (mkF m 66 #[oR r0, oR r1, oR r2, oI 3, oR b111, oU, oU, oU, oU, oU] [(.ref r2)])) rfl (by rw [hml]; rfl) (argsL := []) (rest := []) (lenOf pd21 rfl) rfl (Nat.le_of_eq rfl) (hb hby d15_66) rfl (cN := 5) rfl (by decide) (sN := 29) rfl (by decide)
  obtain ⟨it_126, rfl, Nq126, P126_0, P126_1, P126_2, P126_3, P126_4, P126_5, P126_6⟩ := hQ126
  have N126 := Fr.app N120 Nq126
  have g_it_126 : n0 ≤ it_126 := Nat.le_trans ZZ122 P126_1
  have sz_it_126 : h0.size ≤ it_126 := Nat.le_trans KK123.1 P126_1
  have SK127 := Nat.le_trans SK121 P126_0.1
  have ZZ128 : n0 ≤ T126.heap.size := Nat.le_trans ZZ122 P126_0.1
  have KK129 : Keep h0 T126.heap [r0] := Keep.trans KK123 P126_0 all0
  have Fc130 := (F_size_r2.keep KK129 (ninS nq117 nin0))
  obtain ⟨_, T131, L131, X131, hQ131, st131⟩ := own_cI X126 hx hZ102 hw how102 (b := it_126) (W := 0) (rm_hn1 l Z a0 hw [] it_126 r2 (2 : Int32) (0 : Int32) (2 : Int32) (.int (-1)) T126.heap n0 ZZ128 P126_3 P126_4 P126_5 P126_6 Fc130 (by decide)) (by decide) (by decide) (by decide) 177 rfl 178 rfl 179 rfl 180 rfl 181 rfl 182 rfl 183 rfl 184 rfl 185 rfl 164 rfl rfl P126_2 (g := (mkF m 75 #[oR r0, oR r1, oR r2, oI 3, oR b111, oR it_126, oU, oU, oU, oU] [(.ref it_126)])) rfl (by rw [hml]; rfl) (argsL := []) (rest := []) (lenOf pd15 rfl) rfl (Nat.le_of_eq rfl) (hb hby d15_75) rfl (cN := 5) rfl (by decide) (sN := 29) rfl (by decide)
  obtain ⟨rfl, Nq131, P131_0⟩ := hQ131
  have N131 := Fr.app N126 Nq131
  have Fc132 := (E_r2.keep KK129)
  have Fc133 := (F_modCount_r2.keep KK129 (ninS nq117 nin0))
  have nq134 : r2 ≠ b111 := (Nat.ne_of_lt (Nat.lt_of_lt_of_le Fc107.lt (Nat.le_of_eq g111.symm)))
  have Fc135 := (((Fc107.ext E111).keep P120_0 (ninS nq134 nin0)).keep P126_0 nin0)
  have Fc136 := (E_el.keep KK129)
  have Fc137 := ((Fc116.keep P120_0).keep P126_0)
  have nq138 : el ≠ r0 := (ne_exa Fc136 Fc137 (by decide))
  have Fc139 := (V_el.keep KK129 (ninS nq138 nin0))
  obtain ⟨_, T140, L140, X140, hQ140, st140⟩ := own_cI X131 hx hZ102 hw how102 (b := it_126) (W := 0) (rmm28 l Z a0 hw [] it_126 r2 (2 : Int32) (0 : Int32) (2 : Int32) (.int (-1)) el v0 kel (10 : Int32) [(.ref v0), (.ref v1), .null, .null] T126.heap n0 ZZ128 P126_2 Fc132 g_it_126 P126_3 P126_4 P126_5 P126_6 Fc130 Fc133 Fc135 Fc139 Fc136 (by decide) (by decide) (⟨by decide, by decide⟩) rfl) (by decide) (by decide) (by decide) 189 rfl 190 rfl 191 rfl 192 rfl 193 rfl 194 rfl 195 rfl 184 rfl 196 rfl 164 rfl P131_0 P126_2 (g := (mkF m 85 #[oR r0, oR r1, oR r2, oI 3, oR b111, oR it_126, oU, oU, oU, oU] [(.ref it_126)])) rfl (by rw [hml]; rfl) (argsL := []) (rest := []) (lenOf pd22 rfl) rfl (Nat.le_of_eq rfl) (hb hby d15_85) rfl (cN := 5) rfl (by decide) (sN := 29) rfl (by decide)
  obtain ⟨rfl, Nq140, P140_0, P140_1, P140_2, P140_3, P140_4⟩ := hQ140
  have N140 := Fr.app N131 Nq140
  have SK141 := Nat.le_trans SK127 P140_0.1
  have ZZ142 : n0 ≤ T140.heap.size := Nat.le_trans ZZ128 P140_0.1
  have KK143 : Keep h0 T140.heap [r0] := Keep.trans KK129 P140_0 (allS (Or.inr sz_it_126) all0)
  have Fr144 : Fld Z T140.heap it_126 kITR "cursor" "I" (.int 1) := (own_fi (by decide) P140_1)
  have Fc145 := (E_v0.keep KK143)
  obtain ⟨T146, X146, e146, st146⟩ := castY X140 hx hZ102 how102 (own_w hw 141 rfl) rfl (Ins.of_exa Fc145 (own_w hw 59 rfl)) (g := (mkF m 90 #[oR r0, oR r1, oR r2, oI 3, oR b111, oR it_126, oU, oU, oU, oU] [(.ref v0)])) rfl rfl (hb hby d15_90)
  have nq147 : v0 ≠ r0 := (ne_exa Fc145 (Fc137.keep P140_0) (by decide))
  have Fc148 := (F_size_v0.keep KK143 (ninS nq147 nin0))
  obtain ⟨_, T149, L149, X149, hQ149, st149⟩ := own_cI X146 hx hZ102 hw how102 (b := v0) (W := 0) (rmm23 l Z a0 hw [] v0 (3 : Int32) T140.heap n0 ZZ142 Fc148) (by decide) (by decide) (by decide) 142 rfl 143 rfl 144 rfl 145 rfl 146 rfl 147 rfl 148 rfl 59 rfl 149 rfl 2 rfl e146 Fc145 (g := (mkF m 97 #[oR r0, oR r1, oR r2, oI 3, oR b111, oR it_126, oR v0, oU, oU, oU] [(.ref v0)])) rfl (by rw [hml]; rfl) (argsL := []) (rest := []) (lenOf pd19 rfl) rfl (Nat.le_of_eq rfl) (hb hby d15_97) rfl (cN := 5) rfl (by decide) (sN := 29) rfl (by decide)
  obtain ⟨rfl, Nq149, P149_0⟩ := hQ149
  have N149 := Fr.app N140 Nq149
  have Fc150 := (F_modCount_v0.keep KK143 (ninS nq147 nin0))
  obtain ⟨_, T151, L151, X151, hQ151, st151⟩ := own_cI X149 hx hZ102 hw how102 (b := v0) (W := 0) (rmm25 l Z a0 hw [] v0 (3 : Int32) T140.heap n0 ZZ142 Fc145 Fc150) (by decide) (by decide) (by decide) 154 rfl 155 rfl 156 rfl 157 rfl 158 rfl 159 rfl 160 rfl 59 rfl 161 rfl 2 rfl P149_0 Fc145 (g := (mkF m 130 #[oR r0, oR r1, oR r2, oI 3, oR b111, oR it_126, oR v0, oU, oU, oU] [(.ref v0)])) rfl (by rw [hml]; rfl) (argsL := []) (rest := []) (lenOf pd21 rfl) rfl (Nat.le_of_eq rfl) (hb hby d15_130) rfl (cN := 6) rfl (by decide) (sN := 33) rfl (by decide)
  obtain ⟨it_151, rfl, Nq151, P151_0, P151_1, P151_2, P151_3, P151_4, P151_5, P151_6⟩ := hQ151
  have N151 := Fr.app N149 Nq151
  have g_it_151 : n0 ≤ it_151 := Nat.le_trans ZZ142 P151_1
  have sz_it_151 : h0.size ≤ it_151 := Nat.le_trans KK143.1 P151_1
  have SK152 := Nat.le_trans SK141 P151_0.1
  have ZZ153 : n0 ≤ T151.heap.size := Nat.le_trans ZZ142 P151_0.1
  have KK154 : Keep h0 T151.heap [r0] := Keep.trans KK143 P151_0 all0
  have Fc155 := (F_size_v0.keep KK154 (ninS nq147 nin0))
  obtain ⟨_, T156, L156, X156, hQ156, st156⟩ := own_cI X151 hx hZ102 hw how102 (b := it_151) (W := 0) (rm_hn1 l Z a0 hw [] it_151 v0 (3 : Int32) (0 : Int32) (3 : Int32) (.int (-1)) T151.heap n0 ZZ153 P151_3 P151_4 P151_5 P151_6 Fc155 (by decide)) (by decide) (by decide) (by decide) 177 rfl 178 rfl 179 rfl 180 rfl 181 rfl 182 rfl 183 rfl 184 rfl 185 rfl 164 rfl rfl P151_2 (g := (mkF m 139 #[oR r0, oR r1, oR r2, oI 3, oR b111, oR it_126, oR v0, oR it_151, oU, oU] [(.ref it_151)])) rfl (by rw [hml]; rfl) (argsL := []) (rest := []) (lenOf pd15 rfl) rfl (Nat.le_of_eq rfl) (hb hby d15_139) rfl (cN := 6) rfl (by decide) (sN := 33) rfl (by decide)
  obtain ⟨rfl, Nq156, P156_0⟩ := hQ156
  have N156 := Fr.app N151 Nq156
  have Fc157 := (E_v0.keep KK154)
  have Fc158 := (F_modCount_v0.keep KK154 (ninS nq147 nin0))
  have Fc159 := (F_elementData_v0.keep KK154 (ninS nq147 nin0))
  have Fc160 := (E_el0.keep KK154)
  have Fc161 := ((Fc137.keep P140_0).keep P151_0)
  have nq162 : el0 ≠ r0 := (ne_exa Fc160 Fc161 (by decide))
  have Fc163 := (V_el0.keep KK154 (ninS nq162 nin0))
  obtain ⟨_, T164, L164, X164, hQ164, st164⟩ := own_cI X156 hx hZ102 hw how102 (b := it_151) (W := 0) (rmm28 l Z a0 hw [] it_151 v0 (3 : Int32) (0 : Int32) (3 : Int32) (.int (-1)) el0 x00 kel0 (10 : Int32) [(.ref x00), (.ref x01), (.ref x02), .null] T151.heap n0 ZZ153 P151_2 Fc157 g_it_151 P151_3 P151_4 P151_5 P151_6 Fc155 Fc158 Fc159 Fc163 Fc160 (by decide) (by decide) (⟨by decide, by decide⟩) rfl) (by decide) (by decide) (by decide) 189 rfl 190 rfl 191 rfl 192 rfl 193 rfl 194 rfl 195 rfl 184 rfl 196 rfl 164 rfl P156_0 P151_2 (g := (mkF m 149 #[oR r0, oR r1, oR r2, oI 3, oR b111, oR it_126, oR v0, oR it_151, oU, oU] [(.ref it_151)])) rfl (by rw [hml]; rfl) (argsL := []) (rest := []) (lenOf pd22 rfl) rfl (Nat.le_of_eq rfl) (hb hby d15_149) rfl (cN := 6) rfl (by decide) (sN := 33) rfl (by decide)
  obtain ⟨rfl, Nq164, P164_0, P164_1, P164_2, P164_3, P164_4⟩ := hQ164
  have N164 := Fr.app N156 Nq164
  have SK165 := Nat.le_trans SK152 P164_0.1
  have ZZ166 : n0 ≤ T164.heap.size := Nat.le_trans ZZ153 P164_0.1
  have KK167 : Keep h0 T164.heap [r0] := Keep.trans KK154 P164_0 (allS (Or.inr sz_it_151) all0)
  have Fr168 : Fld Z T164.heap it_151 kITR "cursor" "I" (.int 1) := (own_fi (by decide) P164_1)
  have Fc169 := (E_x00.keep KK167)
  obtain ⟨T170, X170, e170, st170⟩ := castY X164 hx hZ102 how102 (own_w hw 203 rfl) rfl (Ins.self Fc169) (g := (mkF m 154 #[oR r0, oR r1, oR r2, oI 3, oR b111, oR it_126, oR v0, oR it_151, oU, oU] [(.ref x00)])) rfl rfl (hb hby d15_154)
  have nq171 : x00 ≠ r0 := (ne_exa Fc169 (Fc161.keep P164_0) (by decide))
  have Fc172 := (F_value_x00.keep KK167 (ninS nq171 nin0))
  obtain ⟨_, T173, L173, X173, hQ173, st173⟩ := own_cV X170 hx hZ102 hw how102 (b := x00) (W := 0) (rmm30 l Z a0 hw [] x00 d00 T164.heap n0 ZZ166 Fc172) (by decide) (by decide) (by decide) 204 rfl 205 rfl 207 rfl 206 rfl 208 rfl 35 rfl e170 Fc169 (g := (mkF m 157 #[oR r0, oR r1, oR r2, oI 3, oR b111, oR it_126, oR v0, oR it_151, oU, oU] [(.ref x00)])) rfl (by rw [hml]; rfl) (argsL := []) (rest := []) (lenOf pd23 rfl) rfl (Nat.le_of_eq rfl) (hb hby d15_157) rfl (cN := 6) rfl (by decide) (sN := 33) rfl (by decide)
  obtain ⟨rfl, Nq173, P173_0⟩ := hQ173
  have N173 := Fr.app N164 Nq173
  obtain ⟨_, T174, L174, X174, hQ174, st174⟩ := own_cS X173 hx hZ102 hw how102 (W := 0) (rmm31 l Z a0 hw [] d00 T164.heap n0 ZZ166 hn_d00 hf_d00) (by decide) (by decide) (by decide) 209 rfl 210 rfl 35 rfl 211 rfl P173_0 (g := (mkF m 164 #[oR r0, oR r1, oR r2, oI 3, oR b111, oR it_126, oR v0, oR it_151, oD d00, oV] [(.double d00)])) rfl (by rw [hml]; rfl) (argsL := [(.double d00)]) (rest := []) (lenOf pd24 rfl) rfl (Nat.le_of_eq rfl) (hb hby d15_164) rfl (cN := 6) rfl (by decide) (sN := 33) rfl (by decide)
  obtain ⟨rfl, Nq174, P174_0⟩ := hQ174
  have N174 := Fr.app N173 Nq174
  have Fc175 := (F_size_v0.keep KK167 (ninS nq147 nin0))
  obtain ⟨_, T176, L176, X176, hQ176, st176⟩ := own_cI X174 hx hZ102 hw how102 (b := it_151) (W := 0) (rm_hn1 l Z a0 hw [] it_151 v0 (3 : Int32) (1 : Int32) (3 : Int32) (.int 0) T164.heap n0 ZZ166 Fr168 P164_2 P164_3 P164_4 Fc175 (by decide)) (by decide) (by decide) (by decide) 177 rfl 178 rfl 179 rfl 180 rfl 181 rfl 182 rfl 183 rfl 184 rfl 185 rfl 164 rfl P174_0 (P151_2.keep P164_0) (g := (mkF m 139 #[oR r0, oR r1, oR r2, oI 3, oR b111, oR it_126, oR v0, oR it_151, oD d00, oV] [(.ref it_151)])) rfl (by rw [hml]; rfl) (argsL := []) (rest := []) (lenOf pd15 rfl) rfl (Nat.le_of_eq rfl) (hb hby d15_139) rfl (cN := 6) rfl (by decide) (sN := 33) rfl (by decide)
  obtain ⟨rfl, Nq176, P176_0⟩ := hQ176
  have N176 := Fr.app N174 Nq176
  have Fc177 := (E_v0.keep KK167)
  have Fc178 := (F_modCount_v0.keep KK167 (ninS nq147 nin0))
  have Fc179 := (F_elementData_v0.keep KK167 (ninS nq147 nin0))
  have Fc180 := (V_el0.keep KK167 (ninS nq162 nin0))
  have Fc181 := (E_el0.keep KK167)
  obtain ⟨_, T182, L182, X182, hQ182, st182⟩ := own_cI X176 hx hZ102 hw how102 (b := it_151) (W := 0) (rmm28 l Z a0 hw [] it_151 v0 (3 : Int32) (1 : Int32) (3 : Int32) (.int 0) el0 x01 kel0 (10 : Int32) [(.ref x00), (.ref x01), (.ref x02), .null] T164.heap n0 ZZ166 (P151_2.keep P164_0) Fc177 g_it_151 Fr168 P164_2 P164_3 P164_4 Fc175 Fc178 Fc179 Fc180 Fc181 (by decide) (by decide) (⟨by decide, by decide⟩) rfl) (by decide) (by decide) (by decide) 189 rfl 190 rfl 191 rfl 192 rfl 193 rfl 194 rfl 195 rfl 184 rfl 196 rfl 164 rfl P176_0 (P151_2.keep P164_0) (g := (mkF m 149 #[oR r0, oR r1, oR r2, oI 3, oR b111, oR it_126, oR v0, oR it_151, oD d00, oV] [(.ref it_151)])) rfl (by rw [hml]; rfl) (argsL := []) (rest := []) (lenOf pd22 rfl) rfl (Nat.le_of_eq rfl) (hb hby d15_149) rfl (cN := 6) rfl (by decide) (sN := 33) rfl (by decide)
  obtain ⟨rfl, Nq182, P182_0, P182_1, P182_2, P182_3, P182_4⟩ := hQ182
  have N182 := Fr.app N176 Nq182
  have SK183 := Nat.le_trans SK165 P182_0.1
  have ZZ184 : n0 ≤ T182.heap.size := Nat.le_trans ZZ166 P182_0.1
  have KK185 : Keep h0 T182.heap [r0] := Keep.trans KK167 P182_0 (allS (Or.inr sz_it_151) all0)
  have Fr186 : Fld Z T182.heap it_151 kITR "cursor" "I" (.int 2) := (own_fi (by decide) P182_1)
  have Fc187 := (E_x01.keep KK185)
  obtain ⟨T188, X188, e188, st188⟩ := castY X182 hx hZ102 how102 (own_w hw 203 rfl) rfl (Ins.self Fc187) (g := (mkF m 154 #[oR r0, oR r1, oR r2, oI 3, oR b111, oR it_126, oR v0, oR it_151, oD d00, oV] [(.ref x01)])) rfl rfl (hb hby d15_154)
  have Fc189 := ((Fc161.keep P164_0).keep P182_0)
  have nq190 : x01 ≠ r0 := (ne_exa Fc187 Fc189 (by decide))
  have Fc191 := (F_value_x01.keep KK185 (ninS nq190 nin0))
  obtain ⟨_, T192, L192, X192, hQ192, st192⟩ := own_cV X188 hx hZ102 hw how102 (b := x01) (W := 0) (rmm30 l Z a0 hw [] x01 d01 T182.heap n0 ZZ184 Fc191) (by decide) (by decide) (by decide) 204 rfl 205 rfl 207 rfl 206 rfl 208 rfl 35 rfl e188 Fc187 (g := (mkF m 157 #[oR r0, oR r1, oR r2, oI 3, oR b111, oR it_126, oR v0, oR it_151, oD d00, oV] [(.ref x01)])) rfl (by rw [hml]; rfl) (argsL := []) (rest := []) (lenOf pd23 rfl) rfl (Nat.le_of_eq rfl) (hb hby d15_157) rfl (cN := 6) rfl (by decide) (sN := 33) rfl (by decide)
  obtain ⟨rfl, Nq192, P192_0⟩ := hQ192
  have N192 := Fr.app N182 Nq192
  obtain ⟨_, T193, L193, X193, hQ193, st193⟩ := own_cS X192 hx hZ102 hw how102 (W := 0) (rmm31 l Z a0 hw [] d01 T182.heap n0 ZZ184 hn_d01 hf_d01) (by decide) (by decide) (by decide) 209 rfl 210 rfl 35 rfl 211 rfl P192_0 (g := (mkF m 164 #[oR r0, oR r1, oR r2, oI 3, oR b111, oR it_126, oR v0, oR it_151, oD d01, oV] [(.double d01)])) rfl (by rw [hml]; rfl) (argsL := [(.double d01)]) (rest := []) (lenOf pd24 rfl) rfl (Nat.le_of_eq rfl) (hb hby d15_164) rfl (cN := 6) rfl (by decide) (sN := 33) rfl (by decide)
  obtain ⟨rfl, Nq193, P193_0⟩ := hQ193
  have N193 := Fr.app N192 Nq193
  have Fc194 := (F_size_v0.keep KK185 (ninS nq147 nin0))
  have Fc196 := ((P151_2.keep P164_0).keep P182_0)
  obtain ⟨_, T195, L195, X195, hQ195, st195⟩ := own_cI X193 hx hZ102 hw how102 (b := it_151) (W := 0) (rm_hn1 l Z a0 hw [] it_151 v0 (3 : Int32) (2 : Int32) (3 : Int32) (.int 1) T182.heap n0 ZZ184 Fr186 P182_2 P182_3 P182_4 Fc194 (by decide)) (by decide) (by decide) (by decide) 177 rfl 178 rfl 179 rfl 180 rfl 181 rfl 182 rfl 183 rfl 184 rfl 185 rfl 164 rfl P193_0 Fc196 (g := (mkF m 139 #[oR r0, oR r1, oR r2, oI 3, oR b111, oR it_126, oR v0, oR it_151, oD d01, oV] [(.ref it_151)])) rfl (by rw [hml]; rfl) (argsL := []) (rest := []) (lenOf pd15 rfl) rfl (Nat.le_of_eq rfl) (hb hby d15_139) rfl (cN := 6) rfl (by decide) (sN := 33) rfl (by decide)
  obtain ⟨rfl, Nq195, P195_0⟩ := hQ195
  have N195 := Fr.app N193 Nq195
  have Fc197 := (E_v0.keep KK185)
  have Fc198 := (F_modCount_v0.keep KK185 (ninS nq147 nin0))
  have Fc199 := (F_elementData_v0.keep KK185 (ninS nq147 nin0))
  have Fc200 := (V_el0.keep KK185 (ninS nq162 nin0))
  have Fc201 := (E_el0.keep KK185)
  obtain ⟨_, T202, L202, X202, hQ202, st202⟩ := own_cI X195 hx hZ102 hw how102 (b := it_151) (W := 0) (rmm28 l Z a0 hw [] it_151 v0 (3 : Int32) (2 : Int32) (3 : Int32) (.int 1) el0 x02 kel0 (10 : Int32) [(.ref x00), (.ref x01), (.ref x02), .null] T182.heap n0 ZZ184 Fc196 Fc197 g_it_151 Fr186 P182_2 P182_3 P182_4 Fc194 Fc198 Fc199 Fc200 Fc201 (by decide) (by decide) (⟨by decide, by decide⟩) rfl) (by decide) (by decide) (by decide) 189 rfl 190 rfl 191 rfl 192 rfl 193 rfl 194 rfl 195 rfl 184 rfl 196 rfl 164 rfl P195_0 Fc196 (g := (mkF m 149 #[oR r0, oR r1, oR r2, oI 3, oR b111, oR it_126, oR v0, oR it_151, oD d01, oV] [(.ref it_151)])) rfl (by rw [hml]; rfl) (argsL := []) (rest := []) (lenOf pd22 rfl) rfl (Nat.le_of_eq rfl) (hb hby d15_149) rfl (cN := 6) rfl (by decide) (sN := 33) rfl (by decide)
  obtain ⟨rfl, Nq202, P202_0, P202_1, P202_2, P202_3, P202_4⟩ := hQ202
  have N202 := Fr.app N195 Nq202
  have SK203 := Nat.le_trans SK183 P202_0.1
  have ZZ204 : n0 ≤ T202.heap.size := Nat.le_trans ZZ184 P202_0.1
  have KK205 : Keep h0 T202.heap [r0] := Keep.trans KK185 P202_0 (allS (Or.inr sz_it_151) all0)
  have Fr206 : Fld Z T202.heap it_151 kITR "cursor" "I" (.int 3) := (own_fi (by decide) P202_1)
  have Fc207 := (E_x02.keep KK205)
  obtain ⟨T208, X208, e208, st208⟩ := castY X202 hx hZ102 how102 (own_w hw 203 rfl) rfl (Ins.self Fc207) (g := (mkF m 154 #[oR r0, oR r1, oR r2, oI 3, oR b111, oR it_126, oR v0, oR it_151, oD d01, oV] [(.ref x02)])) rfl rfl (hb hby d15_154)
  have nq209 : x02 ≠ r0 := (ne_exa Fc207 (Fc189.keep P202_0) (by decide))
  have Fc210 := (F_value_x02.keep KK205 (ninS nq209 nin0))
  obtain ⟨_, T211, L211, X211, hQ211, st211⟩ := own_cV X208 hx hZ102 hw how102 (b := x02) (W := 0) (rmm30 l Z a0 hw [] x02 d02 T202.heap n0 ZZ204 Fc210) (by decide) (by decide) (by decide) 204 rfl 205 rfl 207 rfl 206 rfl 208 rfl 35 rfl e208 Fc207 (g := (mkF m 157 #[oR r0, oR r1, oR r2, oI 3, oR b111, oR it_126, oR v0, oR it_151, oD d01, oV] [(.ref x02)])) rfl (by rw [hml]; rfl) (argsL := []) (rest := []) (lenOf pd23 rfl) rfl (Nat.le_of_eq rfl) (hb hby d15_157) rfl (cN := 6) rfl (by decide) (sN := 33) rfl (by decide)
  obtain ⟨rfl, Nq211, P211_0⟩ := hQ211
  have N211 := Fr.app N202 Nq211
  obtain ⟨_, T212, L212, X212, hQ212, st212⟩ := own_cS X211 hx hZ102 hw how102 (W := 0) (rmm31 l Z a0 hw [] d02 T202.heap n0 ZZ204 hn_d02 hf_d02) (by decide) (by decide) (by decide) 209 rfl 210 rfl 35 rfl 211 rfl P211_0 (g := (mkF m 164 #[oR r0, oR r1, oR r2, oI 3, oR b111, oR it_126, oR v0, oR it_151, oD d02, oV] [(.double d02)])) rfl (by rw [hml]; rfl) (argsL := [(.double d02)]) (rest := []) (lenOf pd24 rfl) rfl (Nat.le_of_eq rfl) (hb hby d15_164) rfl (cN := 6) rfl (by decide) (sN := 33) rfl (by decide)
  obtain ⟨rfl, Nq212, P212_0⟩ := hQ212
  have N212 := Fr.app N211 Nq212
  have Fc213 := (F_size_v0.keep KK205 (ninS nq147 nin0))
  obtain ⟨_, T214, L214, X214, hQ214, st214⟩ := own_cI X212 hx hZ102 hw how102 (b := it_151) (W := 0) (rm_hn0 l Z a0 hw [] it_151 v0 (3 : Int32) (3 : Int32) (3 : Int32) (.int 2) T202.heap n0 ZZ204 Fr206 P202_2 P202_3 P202_4 Fc213 rfl) (by decide) (by decide) (by decide) 177 rfl 178 rfl 179 rfl 180 rfl 181 rfl 182 rfl 183 rfl 184 rfl 185 rfl 164 rfl P212_0 (Fc196.keep P202_0) (g := (mkF m 139 #[oR r0, oR r1, oR r2, oI 3, oR b111, oR it_126, oR v0, oR it_151, oD d02, oV] [(.ref it_151)])) rfl (by rw [hml]; rfl) (argsL := []) (rest := []) (lenOf pd15 rfl) rfl (Nat.le_of_eq rfl) (hb hby d15_139) rfl (cN := 6) rfl (by decide) (sN := 33) rfl (by decide)
  obtain ⟨rfl, Nq214, P214_0⟩ := hQ214
  have N214 := Fr.app N212 Nq214
  have Fc215 := (E_v0.keep KK205)
  have Fc216 := (F_elementData_v0.keep KK205 (ninS nq147 nin0))
  have Fc217 := (V_el0.keep KK205 (ninS nq162 nin0))
  have Fc218 := (E_el0.keep KK205)
  have Fc219 := (E_x00.keep KK205)
  have Fc220 := (E_x01.keep KK205)
  obtain ⟨_, T221, L221, X221, hQ221, st221⟩ := own_cS X214 hx hZ102 hw how102 (W := 1) (rm_co3_10 l Z a0 hw [] v0 el0 kel0 x00 x01 x02 mr T202.heap n0 ZZ204 Fc215 Fc216 Fc213 Fc217 Fc218 (Ins.of_exa Fc219 (own_w hw 86 rfl)) (Ins.of_exa Fc220 (own_w hw 86 rfl)) (Ins.of_exa Fc207 (own_w hw 86 rfl)) M_mr) (by decide) (by decide) (by decide) 216 rfl 217 rfl 218 rfl 219 rfl P214_0 (g := (mkF m 193 #[oR r0, oR r1, oR r2, oI 3, oR b111, oR it_126, oR v0, oR it_151, oD d02, oV] [(.ref v0), (.ref b111)])) rfl (by rw [hml]; rfl) (argsL := [(.ref v0)]) (rest := [(.ref b111)]) (lenOf pd16 rfl) rfl (Nat.le_of_eq rfl) (hb hby d15_193) rfl (cN := 9) rfl (by decide) (sN := 41) rfl (by decide)
  obtain ⟨LL_221, A_221, kA_221, rfl, Nq221, P221_0, P221_1, P221_2, P221_3, P221_4, P221_5, P221_6, P221_7⟩ := hQ221
  have N221 := Fr.app N214 Nq221
  have g_LL_221 : n0 ≤ LL_221 := Nat.le_trans ZZ204 P221_1
  have sz_LL_221 : h0.size ≤ LL_221 := Nat.le_trans KK205.1 P221_1
  have g_A_221 : n0 ≤ A_221 := Nat.le_trans ZZ204 P221_2
  have sz_A_221 : h0.size ≤ A_221 := Nat.le_trans KK205.1 P221_2
  have SK222 := Nat.le_trans SK203 P221_0.1
  have ZZ223 : n0 ≤ T221.heap.size := Nat.le_trans ZZ204 P221_0.1
  have KK224 : Keep h0 T221.heap [r0] := Keep.trans KK205 P221_0 all0
  have Fc225 := ((((((((A111.keep P120_0).keep P126_0).keep P140_0).keep P151_0).keep P164_0).keep P182_0).keep P202_0).keep P221_0)
  have nq226 : b111 ≠ it_126 := (Nat.ne_of_lt (Nat.lt_of_lt_of_le P120_2.lt P126_1))
  have nq227 : b111 ≠ it_151 := (Nat.ne_of_lt (Nat.lt_of_lt_of_le ((P120_2.keep P126_0 nin0).keep P140_0 (ninS nq226 nin0)).lt P151_1))
  have Fc228 := (((((((P120_2.keep P126_0 nin0).keep P140_0 (ninS nq226 nin0)).keep P151_0 nin0).keep P164_0 (ninS nq227 nin0)).keep P182_0 (ninS nq227 nin0)).keep P202_0 (ninS nq227 nin0)).keep P221_0 nin0)
  have Fc229 := (((((((P120_3.keep P126_0 nin0).keep P140_0 (ninS nq226 nin0)).keep P151_0 nin0).keep P164_0 (ninS nq227 nin0)).keep P182_0 (ninS nq227 nin0)).keep P202_0 (ninS nq227 nin0)).keep P221_0 nin0)
  have Fc230 := (((((((P120_4.keep P126_0 nin0).keep P140_0 (ninS nq226 nin0)).keep P151_0 nin0).keep P164_0 (ninS nq227 nin0)).keep P182_0 (ninS nq227 nin0)).keep P202_0 (ninS nq227 nin0)).keep P221_0 nin0)
  have nq231 : el_120 ≠ it_126 := (Nat.ne_of_lt (Nat.lt_of_lt_of_le P120_6.lt P126_1))
  have nq232 : el_120 ≠ it_151 := (Nat.ne_of_lt (Nat.lt_of_lt_of_le ((P120_6.keep P126_0).keep P140_0).lt P151_1))
  have Fc233 := (((((((P120_5.keep P126_0 nin0).keep P140_0 (ninS nq231 nin0)).keep P151_0 nin0).keep P164_0 (ninS nq232 nin0)).keep P182_0 (ninS nq232 nin0)).keep P202_0 (ninS nq232 nin0)).keep P221_0 nin0)
  have Fc234 := (((((((P120_6.keep P126_0).keep P140_0).keep P151_0).keep P164_0).keep P182_0).keep P202_0).keep P221_0)
  obtain ⟨_, T235, L235, X235, hQ235, st235⟩ := own_cI X221 hx hZ102 hw how102 (b := b111) (W := 0) (rm_a1n l Z a0 hw [] b111 LL_221 (0 : Int32) el_120 kel_120 (0 : Int32) (2 : Int32) 0 [.null, .null] T221.heap n0 ZZ223 Fc225 g_b111 g_el_120 Fc228 Fc229 Fc230 Fc233 Fc234 P120_7 (Ins.of_exa P221_3 (own_w hw 300 rfl)) (by decide) (⟨by decide, by decide⟩) (by decide) (Nat.le_of_ble_eq_true rfl)) (by decide) (by decide) (by decide) 299 rfl 53 rfl 54 rfl 55 rfl 56 rfl 57 rfl 58 rfl 59 rfl 60 rfl 2 rfl rfl Fc225 (g := (mkF m 196 #[oR r0, oR r1, oR r2, oI 3, oR b111, oR it_126, oR v0, oR it_151, oD d02, oV] [(.ref LL_221), (.ref b111)])) rfl (by rw [hml]; rfl) (argsL := [(.ref LL_221)]) (rest := []) (lenOf pd25 rfl) rfl (Nat.le_of_eq rfl) (hb hby d15_196) rfl (cN := 9) rfl (by decide) (sN := 41) rfl (by decide)
  obtain ⟨rfl, Nq235, P235_0, P235_1, P235_2, P235_3, P235_4⟩ := hQ235
  have N235 := Fr.app N221 Nq235
  have SK236 := Nat.le_trans SK222 P235_0.1
  have ZZ237 : n0 ≤ T235.heap.size := Nat.le_trans ZZ223 P235_0.1
  have KK238 : Keep h0 T235.heap [r0] := Keep.trans KK224 P235_0 (allS (Or.inr sz_b111) (allS (Or.inr sz_el_120) all0))
  have Vr239 : Arv Z T235.heap el_120 kel_120 (.object kOB) (2 : Int32) [(.ref LL_221), .null] .null := P235_4
  have Fr240 : Fld Z T235.heap b111 kAL "size" "I" (.int 1) := (own_fi (by decide) P235_2)
  have Fr241 : Fld Z T235.heap b111 kABL "modCount" "I" (.int 1) := (own_fi (by decide) P235_3)
  have nq242 : it_126 ≠ it_151 := (Nat.ne_of_lt (Nat.lt_of_lt_of_le Fr144.lt P151_1))
  have Fc243 := ((((((Fr144.keep P151_0 nin0).keep P164_0 (ninS nq242 nin0)).keep P182_0 (ninS nq242 nin0)).keep P202_0 (ninS nq242 nin0)).keep P221_0 nin0).keep P235_0 (ninS (Ne.symm nq226) (ninS (Ne.symm nq231) nin0)))
  have Fc244 := ((((((P140_2.keep P151_0 nin0).keep P164_0 (ninS nq242 nin0)).keep P182_0 (ninS nq242 nin0)).keep P202_0 (ninS nq242 nin0)).keep P221_0 nin0).keep P235_0 (ninS (Ne.symm nq226) (ninS (Ne.symm nq231) nin0)))
  have Fc245 := ((((((P140_3.keep P151_0 nin0).keep P164_0 (ninS nq242 nin0)).keep P182_0 (ninS nq242 nin0)).keep P202_0 (ninS nq242 nin0)).keep P221_0 nin0).keep P235_0 (ninS (Ne.symm nq226) (ninS (Ne.symm nq231) nin0)))
  have Fc246 := ((((((P140_4.keep P151_0 nin0).keep P164_0 (ninS nq242 nin0)).keep P182_0 (ninS nq242 nin0)).keep P202_0 (ninS nq242 nin0)).keep P221_0 nin0).keep P235_0 (ninS (Ne.symm nq226) (ninS (Ne.symm nq231) nin0)))
  have Fc247 := (F_size_r2.keep KK238 (ninS nq117 nin0))
  have Fc249 := (((((((P126_2.keep P140_0).keep P151_0).keep P164_0).keep P182_0).keep P202_0).keep P221_0).keep P235_0)
  obtain ⟨_, T248, L248, X248, hQ248, st248⟩ := own_cI X235 hx hZ102 hw how102 (b := it_126) (W := 0) (rm_hn1 l Z a0 hw [] it_126 r2 (2 : Int32) (1 : Int32) (2 : Int32) (.int 0) T235.heap n0 ZZ237 Fc243 Fc244 Fc245 Fc246 Fc247 (by decide)) (by decide) (by decide) (by decide) 177 rfl 178 rfl 179 rfl 180 rfl 181 rfl 182 rfl 183 rfl 184 rfl 185 rfl 164 rfl rfl Fc249 (g := (mkF m 75 #[oR r0, oR r1, oR r2, oI 3, oR b111, oR it_126, oR v0, oR it_151, oD d02, oV] [(.ref it_126)])) rfl (by rw [hml]; rfl) (argsL := []) (rest := []) (lenOf pd15 rfl) rfl (Nat.le_of_eq rfl) (hb hby d15_75) rfl (cN := 9) rfl (by decide) (sN := 41) rfl (by decide)
  obtain ⟨rfl, Nq248, P248_0⟩ := hQ248
  have N248 := Fr.app N235 Nq248
  have Fc250 := (E_r2.keep KK238)
  have Fc251 := (F_modCount_r2.keep KK238 (ninS nq117 nin0))
  have nq252 : r2 ≠ it_126 := (ne_exa Fc250 Fc249 (by decide))
  have Fc253 := (((Fc196.keep P202_0).keep P221_0).keep P235_0)
  have nq254 : r2 ≠ it_151 := (ne_exa Fc250 Fc253 (by decide))
  have nq255 : r2 ≠ el_120 := (ne_exa Fc250 (Fc234.keep P235_0) (by decide))
  have Fc256 := (((((((Fc135.keep P140_0 (ninS nq252 nin0)).keep P151_0 nin0).keep P164_0 (ninS nq254 nin0)).keep P182_0 (ninS nq254 nin0)).keep P202_0 (ninS nq254 nin0)).keep P221_0 nin0).keep P235_0 (ninS nq134 (ninS nq255 nin0)))
  have Fc257 := (V_el.keep KK238 (ninS nq138 nin0))
  have Fc258 := (E_el.keep KK238)
  obtain ⟨_, T259, L259, X259, hQ259, st259⟩ := own_cI X248 hx hZ102 hw how102 (b := it_126) (W := 0) (rmm28 l Z a0 hw [] it_126 r2 (2 : Int32) (1 : Int32) (2 : Int32) (.int 0) el v1 kel (10 : Int32) [(.ref v0), (.ref v1), .null, .null] T235.heap n0 ZZ237 Fc249 Fc250 g_it_126 Fc243 Fc244 Fc245 Fc246 Fc247 Fc251 Fc256 Fc257 Fc258 (by decide) (by decide) (⟨by decide, by decide⟩) rfl) (by decide) (by decide) (by decide) 189 rfl 190 rfl 191 rfl 192 rfl 193 rfl 194 rfl 195 rfl 184 rfl 196 rfl 164 rfl P248_0 Fc249 (g := (mkF m 85 #[oR r0, oR r1, oR r2, oI 3, oR b111, oR it_126, oR v0, oR it_151, oD d02, oV] [(.ref it_126)])) rfl (by rw [hml]; rfl) (argsL := []) (rest := []) (lenOf pd22 rfl) rfl (Nat.le_of_eq rfl) (hb hby d15_85) rfl (cN := 9) rfl (by decide) (sN := 41) rfl (by decide)
  obtain ⟨rfl, Nq259, P259_0, P259_1, P259_2, P259_3, P259_4⟩ := hQ259
  have N259 := Fr.app N248 Nq259
  have SK260 := Nat.le_trans SK236 P259_0.1
  have ZZ261 : n0 ≤ T259.heap.size := Nat.le_trans ZZ237 P259_0.1
  have KK262 : Keep h0 T259.heap [r0] := Keep.trans KK238 P259_0 (allS (Or.inr sz_it_126) all0)
  have Fr263 : Fld Z T259.heap it_126 kITR "cursor" "I" (.int 2) := (own_fi (by decide) P259_1)
  have Fc264 := (E_v1.keep KK262)
  obtain ⟨T265, X265, e265, st265⟩ := castY X259 hx hZ102 how102 (own_w hw 141 rfl) rfl (Ins.of_exa Fc264 (own_w hw 59 rfl)) (g := (mkF m 90 #[oR r0, oR r1, oR r2, oI 3, oR b111, oR it_126, oR v0, oR it_151, oD d02, oV] [(.ref v1)])) rfl rfl (hb hby d15_90)
  have Fc266 := ((((Fc189.keep P202_0).keep P221_0).keep P235_0).keep P259_0)
  have nq267 : v1 ≠ r0 := (ne_exa Fc264 Fc266 (by decide))
  have Fc268 := (F_size_v1.keep KK262 (ninS nq267 nin0))
  obtain ⟨_, T269, L269, X269, hQ269, st269⟩ := own_cI X265 hx hZ102 hw how102 (b := v1) (W := 0) (rmm23 l Z a0 hw [] v1 (3 : Int32) T259.heap n0 ZZ261 Fc268) (by decide) (by decide) (by decide) 142 rfl 143 rfl 144 rfl 145 rfl 146 rfl 147 rfl 148 rfl 59 rfl 149 rfl 2 rfl e265 Fc264 (g := (mkF m 97 #[oR r0, oR r1, oR r2, oI 3, oR b111, oR it_126, oR v1, oR it_151, oD d02, oV] [(.ref v1)])) rfl (by rw [hml]; rfl) (argsL := []) (rest := []) (lenOf pd19 rfl) rfl (Nat.le_of_eq rfl) (hb hby d15_97) rfl (cN := 9) rfl (by decide) (sN := 41) rfl (by decide)
  obtain ⟨rfl, Nq269, P269_0⟩ := hQ269
  have N269 := Fr.app N259 Nq269
  have Fc270 := (F_modCount_v1.keep KK262 (ninS nq267 nin0))
  obtain ⟨_, T271, L271, X271, hQ271, st271⟩ := own_cI X269 hx hZ102 hw how102 (b := v1) (W := 0) (rmm25 l Z a0 hw [] v1 (3 : Int32) T259.heap n0 ZZ261 Fc264 Fc270) (by decide) (by decide) (by decide) 154 rfl 155 rfl 156 rfl 157 rfl 158 rfl 159 rfl 160 rfl 59 rfl 161 rfl 2 rfl P269_0 Fc264 (g := (mkF m 130 #[oR r0, oR r1, oR r2, oI 3, oR b111, oR it_126, oR v1, oR it_151, oD d02, oV] [(.ref v1)])) rfl (by rw [hml]; rfl) (argsL := []) (rest := []) (lenOf pd21 rfl) rfl (Nat.le_of_eq rfl) (hb hby d15_130) rfl (cN := 10) rfl (by decide) (sN := 45) rfl (by decide)
  obtain ⟨it_271, rfl, Nq271, P271_0, P271_1, P271_2, P271_3, P271_4, P271_5, P271_6⟩ := hQ271
  have N271 := Fr.app N269 Nq271
  have g_it_271 : n0 ≤ it_271 := Nat.le_trans ZZ261 P271_1
  have sz_it_271 : h0.size ≤ it_271 := Nat.le_trans KK262.1 P271_1
  have SK272 := Nat.le_trans SK260 P271_0.1
  have ZZ273 : n0 ≤ T271.heap.size := Nat.le_trans ZZ261 P271_0.1
  have KK274 : Keep h0 T271.heap [r0] := Keep.trans KK262 P271_0 all0
  have Fc275 := (F_size_v1.keep KK274 (ninS nq267 nin0))
  obtain ⟨_, T276, L276, X276, hQ276, st276⟩ := own_cI X271 hx hZ102 hw how102 (b := it_271) (W := 0) (rm_hn1 l Z a0 hw [] it_271 v1 (3 : Int32) (0 : Int32) (3 : Int32) (.int (-1)) T271.heap n0 ZZ273 P271_3 P271_4 P271_5 P271_6 Fc275 (by decide)) (by decide) (by decide) (by decide) 177 rfl 178 rfl 179 rfl 180 rfl 181 rfl 182 rfl 183 rfl 184 rfl 185 rfl 164 rfl rfl P271_2 (g := (mkF m 139 #[oR r0, oR r1, oR r2, oI 3, oR b111, oR it_126, oR v1, oR it_271, oD d02, oV] [(.ref it_271)])) rfl (by rw [hml]; rfl) (argsL := []) (rest := []) (lenOf pd15 rfl) rfl (Nat.le_of_eq rfl) (hb hby d15_139) rfl (cN := 10) rfl (by decide) (sN := 45) rfl (by decide)
  obtain ⟨rfl, Nq276, P276_0⟩ := hQ276
  have N276 := Fr.app N271 Nq276
  have Fc277 := (E_v1.keep KK274)
  have Fc278 := (F_modCount_v1.keep KK274 (ninS nq267 nin0))
  have Fc279 := (F_elementData_v1.keep KK274 (ninS nq267 nin0))
  have Fc280 := (E_el1.keep KK274)
  have nq281 : el1 ≠ r0 := (ne_exa Fc280 (Fc266.keep P271_0) (by decide))
  have Fc282 := (V_el1.keep KK274 (ninS nq281 nin0))
  obtain ⟨_, T283, L283, X283, hQ283, st283⟩ := own_cI X276 hx hZ102 hw how102 (b := it_271) (W := 0) (rmm28 l Z a0 hw [] it_271 v1 (3 : Int32) (0 : Int32) (3 : Int32) (.int (-1)) el1 x10 kel1 (10 : Int32) [(.ref x10), (.ref x11), (.ref x12), .null] T271.heap n0 ZZ273 P271_2 Fc277 g_it_271 P271_3 P271_4 P271_5 P271_6 Fc275 Fc278 Fc279 Fc282 Fc280 (by decide) (by decide) (⟨by decide, by decide⟩) rfl) (by decide) (by decide) (by decide) 189 rfl 190 rfl 191 rfl 192 rfl 193 rfl 194 rfl 195 rfl 184 rfl 196 rfl 164 rfl P276_0 P271_2 (g := (mkF m 149 #[oR r0, oR r1, oR r2, oI 3, oR b111, oR it_126, oR v1, oR it_271, oD d02, oV] [(.ref it_271)])) rfl (by rw [hml]; rfl) (argsL := []) (rest := []) (lenOf pd22 rfl) rfl (Nat.le_of_eq rfl) (hb hby d15_149) rfl (cN := 10) rfl (by decide) (sN := 45) rfl (by decide)
  obtain ⟨rfl, Nq283, P283_0, P283_1, P283_2, P283_3, P283_4⟩ := hQ283
  have N283 := Fr.app N276 Nq283
  have SK284 := Nat.le_trans SK272 P283_0.1
  have ZZ285 : n0 ≤ T283.heap.size := Nat.le_trans ZZ273 P283_0.1
  have KK286 : Keep h0 T283.heap [r0] := Keep.trans KK274 P283_0 (allS (Or.inr sz_it_271) all0)
  have Fr287 : Fld Z T283.heap it_271 kITR "cursor" "I" (.int 1) := (own_fi (by decide) P283_1)
  have Fc288 := (E_x10.keep KK286)
  obtain ⟨T289, X289, e289, st289⟩ := castY X283 hx hZ102 how102 (own_w hw 203 rfl) rfl (Ins.self Fc288) (g := (mkF m 154 #[oR r0, oR r1, oR r2, oI 3, oR b111, oR it_126, oR v1, oR it_271, oD d02, oV] [(.ref x10)])) rfl rfl (hb hby d15_154)
  have Fc290 := ((Fc266.keep P271_0).keep P283_0)
  have nq291 : x10 ≠ r0 := (ne_exa Fc288 Fc290 (by decide))
  have Fc292 := (F_value_x10.keep KK286 (ninS nq291 nin0))
  obtain ⟨_, T293, L293, X293, hQ293, st293⟩ := own_cV X289 hx hZ102 hw how102 (b := x10) (W := 0) (rmm30 l Z a0 hw [] x10 d10 T283.heap n0 ZZ285 Fc292) (by decide) (by decide) (by decide) 204 rfl 205 rfl 207 rfl 206 rfl 208 rfl 35 rfl e289 Fc288 (g := (mkF m 157 #[oR r0, oR r1, oR r2, oI 3, oR b111, oR it_126, oR v1, oR it_271, oD d02, oV] [(.ref x10)])) rfl (by rw [hml]; rfl) (argsL := []) (rest := []) (lenOf pd23 rfl) rfl (Nat.le_of_eq rfl) (hb hby d15_157) rfl (cN := 10) rfl (by decide) (sN := 45) rfl (by decide)
  obtain ⟨rfl, Nq293, P293_0⟩ := hQ293
  have N293 := Fr.app N283 Nq293
  obtain ⟨_, T294, L294, X294, hQ294, st294⟩ := own_cS X293 hx hZ102 hw how102 (W := 0) (rmm31 l Z a0 hw [] d10 T283.heap n0 ZZ285 hn_d10 hf_d10) (by decide) (by decide) (by decide) 209 rfl 210 rfl 35 rfl 211 rfl P293_0 (g := (mkF m 164 #[oR r0, oR r1, oR r2, oI 3, oR b111, oR it_126, oR v1, oR it_271, oD d10, oV] [(.double d10)])) rfl (by rw [hml]; rfl) (argsL := [(.double d10)]) (rest := []) (lenOf pd24 rfl) rfl (Nat.le_of_eq rfl) (hb hby d15_164) rfl (cN := 10) rfl (by decide) (sN := 45) rfl (by decide)
  obtain ⟨rfl, Nq294, P294_0⟩ := hQ294
  have N294 := Fr.app N293 Nq294
  have Fc295 := (F_size_v1.keep KK286 (ninS nq267 nin0))
  obtain ⟨_, T296, L296, X296, hQ296, st296⟩ := own_cI X294 hx hZ102 hw how102 (b := it_271) (W := 0) (rm_hn1 l Z a0 hw [] it_271 v1 (3 : Int32) (1 : Int32) (3 : Int32) (.int 0) T283.heap n0 ZZ285 Fr287 P283_2 P283_3 P283_4 Fc295 (by decide)) (by decide) (by decide) (by decide) 177 rfl 178 rfl 179 rfl 180 rfl 181 rfl 182 rfl 183 rfl 184 rfl 185 rfl 164 rfl P294_0 (P271_2.keep P283_0) (g := (mkF m 139 #[oR r0, oR r1, oR r2, oI 3, oR b111, oR it_126, oR v1, oR it_271, oD d10, oV] [(.ref it_271)])) rfl (by rw [hml]; rfl) (argsL := []) (rest := []) (lenOf pd15 rfl) rfl (Nat.le_of_eq rfl) (hb hby d15_139) rfl (cN := 10) rfl (by decide) (sN := 45) rfl (by decide)
  obtain ⟨rfl, Nq296, P296_0⟩ := hQ296
  have N296 := Fr.app N294 Nq296
  have Fc297 := (E_v1.keep KK286)
  have Fc298 := (F_modCount_v1.keep KK286 (ninS nq267 nin0))
  have Fc299 := (F_elementData_v1.keep KK286 (ninS nq267 nin0))
  have Fc300 := (V_el1.keep KK286 (ninS nq281 nin0))
  have Fc301 := (E_el1.keep KK286)
  obtain ⟨_, T302, L302, X302, hQ302, st302⟩ := own_cI X296 hx hZ102 hw how102 (b := it_271) (W := 0) (rmm28 l Z a0 hw [] it_271 v1 (3 : Int32) (1 : Int32) (3 : Int32) (.int 0) el1 x11 kel1 (10 : Int32) [(.ref x10), (.ref x11), (.ref x12), .null] T283.heap n0 ZZ285 (P271_2.keep P283_0) Fc297 g_it_271 Fr287 P283_2 P283_3 P283_4 Fc295 Fc298 Fc299 Fc300 Fc301 (by decide) (by decide) (⟨by decide, by decide⟩) rfl) (by decide) (by decide) (by decide) 189 rfl 190 rfl 191 rfl 192 rfl 193 rfl 194 rfl 195 rfl 184 rfl 196 rfl 164 rfl P296_0 (P271_2.keep P283_0) (g := (mkF m 149 #[oR r0, oR r1, oR r2, oI 3, oR b111, oR it_126, oR v1, oR it_271, oD d10, oV] [(.ref it_271)])) rfl (by rw [hml]; rfl) (argsL := []) (rest := []) (lenOf pd22 rfl) rfl (Nat.le_of_eq rfl) (hb hby d15_149) rfl (cN := 10) rfl (by decide) (sN := 45) rfl (by decide)
  obtain ⟨rfl, Nq302, P302_0, P302_1, P302_2, P302_3, P302_4⟩ := hQ302
  have N302 := Fr.app N296 Nq302
  have SK303 := Nat.le_trans SK284 P302_0.1
  have ZZ304 : n0 ≤ T302.heap.size := Nat.le_trans ZZ285 P302_0.1
  have KK305 : Keep h0 T302.heap [r0] := Keep.trans KK286 P302_0 (allS (Or.inr sz_it_271) all0)
  have Fr306 : Fld Z T302.heap it_271 kITR "cursor" "I" (.int 2) := (own_fi (by decide) P302_1)
  have Fc307 := (E_x11.keep KK305)
  obtain ⟨T308, X308, e308, st308⟩ := castY X302 hx hZ102 how102 (own_w hw 203 rfl) rfl (Ins.self Fc307) (g := (mkF m 154 #[oR r0, oR r1, oR r2, oI 3, oR b111, oR it_126, oR v1, oR it_271, oD d10, oV] [(.ref x11)])) rfl rfl (hb hby d15_154)
  have nq309 : x11 ≠ r0 := (ne_exa Fc307 (Fc290.keep P302_0) (by decide))
  have Fc310 := (F_value_x11.keep KK305 (ninS nq309 nin0))
  obtain ⟨_, T311, L311, X311, hQ311, st311⟩ := own_cV X308 hx hZ102 hw how102 (b := x11) (W := 0) (rmm30 l Z a0 hw [] x11 d11 T302.heap n0 ZZ304 Fc310) (by decide) (by decide) (by decide) 204 rfl 205 rfl 207 rfl 206 rfl 208 rfl 35 rfl e308 Fc307 (g := (mkF m 157 #[oR r0, oR r1, oR r2, oI 3, oR b111, oR it_126, oR v1, oR it_271, oD d10, oV] [(.ref x11)])) rfl (by rw [hml]; rfl) (argsL := []) (rest := []) (lenOf pd23 rfl) rfl (Nat.le_of_eq rfl) (hb hby d15_157) rfl (cN := 10) rfl (by decide) (sN := 45) rfl (by decide)
  obtain ⟨rfl, Nq311, P311_0⟩ := hQ311
  have N311 := Fr.app N302 Nq311
  obtain ⟨_, T312, L312, X312, hQ312, st312⟩ := own_cS X311 hx hZ102 hw how102 (W := 0) (rmm31 l Z a0 hw [] d11 T302.heap n0 ZZ304 hn_d11 hf_d11) (by decide) (by decide) (by decide) 209 rfl 210 rfl 35 rfl 211 rfl P311_0 (g := (mkF m 164 #[oR r0, oR r1, oR r2, oI 3, oR b111, oR it_126, oR v1, oR it_271, oD d11, oV] [(.double d11)])) rfl (by rw [hml]; rfl) (argsL := [(.double d11)]) (rest := []) (lenOf pd24 rfl) rfl (Nat.le_of_eq rfl) (hb hby d15_164) rfl (cN := 10) rfl (by decide) (sN := 45) rfl (by decide)
  obtain ⟨rfl, Nq312, P312_0⟩ := hQ312
  have N312 := Fr.app N311 Nq312
  have Fc313 := (F_size_v1.keep KK305 (ninS nq267 nin0))
  have Fc315 := ((P271_2.keep P283_0).keep P302_0)
  obtain ⟨_, T314, L314, X314, hQ314, st314⟩ := own_cI X312 hx hZ102 hw how102 (b := it_271) (W := 0) (rm_hn1 l Z a0 hw [] it_271 v1 (3 : Int32) (2 : Int32) (3 : Int32) (.int 1) T302.heap n0 ZZ304 Fr306 P302_2 P302_3 P302_4 Fc313 (by decide)) (by decide) (by decide) (by decide) 177 rfl 178 rfl 179 rfl 180 rfl 181 rfl 182 rfl 183 rfl 184 rfl 185 rfl 164 rfl P312_0 Fc315 (g := (mkF m 139 #[oR r0, oR r1, oR r2, oI 3, oR b111, oR it_126, oR v1, oR it_271, oD d11, oV] [(.ref it_271)])) rfl (by rw [hml]; rfl) (argsL := []) (rest := []) (lenOf pd15 rfl) rfl (Nat.le_of_eq rfl) (hb hby d15_139) rfl (cN := 10) rfl (by decide) (sN := 45) rfl (by decide)
  obtain ⟨rfl, Nq314, P314_0⟩ := hQ314
  have N314 := Fr.app N312 Nq314
  have Fc316 := (E_v1.keep KK305)
  have Fc317 := (F_modCount_v1.keep KK305 (ninS nq267 nin0))
  have Fc318 := (F_elementData_v1.keep KK305 (ninS nq267 nin0))
  have Fc319 := (V_el1.keep KK305 (ninS nq281 nin0))
  have Fc320 := (E_el1.keep KK305)
  obtain ⟨_, T321, L321, X321, hQ321, st321⟩ := own_cI X314 hx hZ102 hw how102 (b := it_271) (W := 0) (rmm28 l Z a0 hw [] it_271 v1 (3 : Int32) (2 : Int32) (3 : Int32) (.int 1) el1 x12 kel1 (10 : Int32) [(.ref x10), (.ref x11), (.ref x12), .null] T302.heap n0 ZZ304 Fc315 Fc316 g_it_271 Fr306 P302_2 P302_3 P302_4 Fc313 Fc317 Fc318 Fc319 Fc320 (by decide) (by decide) (⟨by decide, by decide⟩) rfl) (by decide) (by decide) (by decide) 189 rfl 190 rfl 191 rfl 192 rfl 193 rfl 194 rfl 195 rfl 184 rfl 196 rfl 164 rfl P314_0 Fc315 (g := (mkF m 149 #[oR r0, oR r1, oR r2, oI 3, oR b111, oR it_126, oR v1, oR it_271, oD d11, oV] [(.ref it_271)])) rfl (by rw [hml]; rfl) (argsL := []) (rest := []) (lenOf pd22 rfl) rfl (Nat.le_of_eq rfl) (hb hby d15_149) rfl (cN := 10) rfl (by decide) (sN := 45) rfl (by decide)
  obtain ⟨rfl, Nq321, P321_0, P321_1, P321_2, P321_3, P321_4⟩ := hQ321
  have N321 := Fr.app N314 Nq321
  have SK322 := Nat.le_trans SK303 P321_0.1
  have ZZ323 : n0 ≤ T321.heap.size := Nat.le_trans ZZ304 P321_0.1
  have KK324 : Keep h0 T321.heap [r0] := Keep.trans KK305 P321_0 (allS (Or.inr sz_it_271) all0)
  have Fr325 : Fld Z T321.heap it_271 kITR "cursor" "I" (.int 3) := (own_fi (by decide) P321_1)
  have Fc326 := (E_x12.keep KK324)
  obtain ⟨T327, X327, e327, st327⟩ := castY X321 hx hZ102 how102 (own_w hw 203 rfl) rfl (Ins.self Fc326) (g := (mkF m 154 #[oR r0, oR r1, oR r2, oI 3, oR b111, oR it_126, oR v1, oR it_271, oD d11, oV] [(.ref x12)])) rfl rfl (hb hby d15_154)
  have Fc328 := ((Fc290.keep P302_0).keep P321_0)
  have nq329 : x12 ≠ r0 := (ne_exa Fc326 Fc328 (by decide))
  have Fc330 := (F_value_x12.keep KK324 (ninS nq329 nin0))
  obtain ⟨_, T331, L331, X331, hQ331, st331⟩ := own_cV X327 hx hZ102 hw how102 (b := x12) (W := 0) (rmm30 l Z a0 hw [] x12 d12 T321.heap n0 ZZ323 Fc330) (by decide) (by decide) (by decide) 204 rfl 205 rfl 207 rfl 206 rfl 208 rfl 35 rfl e327 Fc326 (g := (mkF m 157 #[oR r0, oR r1, oR r2, oI 3, oR b111, oR it_126, oR v1, oR it_271, oD d11, oV] [(.ref x12)])) rfl (by rw [hml]; rfl) (argsL := []) (rest := []) (lenOf pd23 rfl) rfl (Nat.le_of_eq rfl) (hb hby d15_157) rfl (cN := 10) rfl (by decide) (sN := 45) rfl (by decide)
  obtain ⟨rfl, Nq331, P331_0⟩ := hQ331
  have N331 := Fr.app N321 Nq331
  obtain ⟨_, T332, L332, X332, hQ332, st332⟩ := own_cS X331 hx hZ102 hw how102 (W := 0) (rmm31 l Z a0 hw [] d12 T321.heap n0 ZZ323 hn_d12 hf_d12) (by decide) (by decide) (by decide) 209 rfl 210 rfl 35 rfl 211 rfl P331_0 (g := (mkF m 164 #[oR r0, oR r1, oR r2, oI 3, oR b111, oR it_126, oR v1, oR it_271, oD d12, oV] [(.double d12)])) rfl (by rw [hml]; rfl) (argsL := [(.double d12)]) (rest := []) (lenOf pd24 rfl) rfl (Nat.le_of_eq rfl) (hb hby d15_164) rfl (cN := 10) rfl (by decide) (sN := 45) rfl (by decide)
  obtain ⟨rfl, Nq332, P332_0⟩ := hQ332
  have N332 := Fr.app N331 Nq332
  have Fc333 := (F_size_v1.keep KK324 (ninS nq267 nin0))
  obtain ⟨_, T334, L334, X334, hQ334, st334⟩ := own_cI X332 hx hZ102 hw how102 (b := it_271) (W := 0) (rm_hn0 l Z a0 hw [] it_271 v1 (3 : Int32) (3 : Int32) (3 : Int32) (.int 2) T321.heap n0 ZZ323 Fr325 P321_2 P321_3 P321_4 Fc333 rfl) (by decide) (by decide) (by decide) 177 rfl 178 rfl 179 rfl 180 rfl 181 rfl 182 rfl 183 rfl 184 rfl 185 rfl 164 rfl P332_0 (Fc315.keep P321_0) (g := (mkF m 139 #[oR r0, oR r1, oR r2, oI 3, oR b111, oR it_126, oR v1, oR it_271, oD d12, oV] [(.ref it_271)])) rfl (by rw [hml]; rfl) (argsL := []) (rest := []) (lenOf pd15 rfl) rfl (Nat.le_of_eq rfl) (hb hby d15_139) rfl (cN := 10) rfl (by decide) (sN := 45) rfl (by decide)
  obtain ⟨rfl, Nq334, P334_0⟩ := hQ334
  have N334 := Fr.app N332 Nq334
  have Fc335 := (E_v1.keep KK324)
  have Fc336 := (F_elementData_v1.keep KK324 (ninS nq267 nin0))
  have Fc337 := (V_el1.keep KK324 (ninS nq281 nin0))
  have Fc338 := (E_el1.keep KK324)
  have Fc339 := (E_x10.keep KK324)
  have Fc340 := (E_x11.keep KK324)
  obtain ⟨_, T341, L341, X341, hQ341, st341⟩ := own_cS X334 hx hZ102 hw how102 (W := 1) (rm_co3_10 l Z a0 hw [] v1 el1 kel1 x10 x11 x12 mr T321.heap n0 ZZ323 Fc335 Fc336 Fc333 Fc337 Fc338 (Ins.of_exa Fc339 (own_w hw 86 rfl)) (Ins.of_exa Fc340 (own_w hw 86 rfl)) (Ins.of_exa Fc326 (own_w hw 86 rfl)) M_mr) (by decide) (by decide) (by decide) 216 rfl 217 rfl 218 rfl 219 rfl P334_0 (g := (mkF m 193 #[oR r0, oR r1, oR r2, oI 3, oR b111, oR it_126, oR v1, oR it_271, oD d12, oV] [(.ref v1), (.ref b111)])) rfl (by rw [hml]; rfl) (argsL := [(.ref v1)]) (rest := [(.ref b111)]) (lenOf pd16 rfl) rfl (Nat.le_of_eq rfl) (hb hby d15_193) rfl (cN := 13) rfl (by decide) (sN := 53) rfl (by decide)
  obtain ⟨LL_341, A_341, kA_341, rfl, Nq341, P341_0, P341_1, P341_2, P341_3, P341_4, P341_5, P341_6, P341_7⟩ := hQ341
  have N341 := Fr.app N334 Nq341
  have g_LL_341 : n0 ≤ LL_341 := Nat.le_trans ZZ323 P341_1
  have sz_LL_341 : h0.size ≤ LL_341 := Nat.le_trans KK324.1 P341_1
  have g_A_341 : n0 ≤ A_341 := Nat.le_trans ZZ323 P341_2
  have sz_A_341 : h0.size ≤ A_341 := Nat.le_trans KK324.1 P341_2
  have SK342 := Nat.le_trans SK322 P341_0.1
  have ZZ343 : n0 ≤ T341.heap.size := Nat.le_trans ZZ323 P341_0.1
  have KK344 : Keep h0 T341.heap [r0] := Keep.trans KK324 P341_0 all0
  have Fc345 := (((((((Fc225.keep P235_0).keep P259_0).keep P271_0).keep P283_0).keep P302_0).keep P321_0).keep P341_0)
  have nq346 : b111 ≠ it_271 := (Nat.ne_of_lt (Nat.lt_of_lt_of_le (P235_1.keep P259_0 (ninS nq226 nin0)).lt P271_1))
  have Fc347 := ((((((P235_1.keep P259_0 (ninS nq226 nin0)).keep P271_0 nin0).keep P283_0 (ninS nq346 nin0)).keep P302_0 (ninS nq346 nin0)).keep P321_0 (ninS nq346 nin0)).keep P341_0 nin0)
  have Fc348 := ((((((Fr240.keep P259_0 (ninS nq226 nin0)).keep P271_0 nin0).keep P283_0 (ninS nq346 nin0)).keep P302_0 (ninS nq346 nin0)).keep P321_0 (ninS nq346 nin0)).keep P341_0 nin0)
  have Fc349 := ((((((Fr241.keep P259_0 (ninS nq226 nin0)).keep P271_0 nin0).keep P283_0 (ninS nq346 nin0)).keep P302_0 (ninS nq346 nin0)).keep P321_0 (ninS nq346 nin0)).keep P341_0 nin0)
  have nq350 : el_120 ≠ it_271 := (Nat.ne_of_lt (Nat.lt_of_lt_of_le (Vr239.keep P259_0 (ninS nq231 nin0)).lt P271_1))
  have Fc351 := ((((((Vr239.keep P259_0 (ninS nq231 nin0)).keep P271_0 nin0).keep P283_0 (ninS nq350 nin0)).keep P302_0 (ninS nq350 nin0)).keep P321_0 (ninS nq350 nin0)).keep P341_0 nin0)
  have Fc352 := (((((((Fc234.keep P235_0).keep P259_0).keep P271_0).keep P283_0).keep P302_0).keep P321_0).keep P341_0)
  obtain ⟨_, T353, L353, X353, hQ353, st353⟩ := own_cI X341 hx hZ102 hw how102 (b := b111) (W := 0) (rm_a1n l Z a0 hw [] b111 LL_341 (1 : Int32) el_120 kel_120 (1 : Int32) (2 : Int32) 1 [(.ref LL_221), .null] T341.heap n0 ZZ343 Fc345 g_b111 g_el_120 Fc347 Fc348 Fc349 Fc351 Fc352 P120_7 (Ins.of_exa P341_3 (own_w hw 300 rfl)) (by decide) (⟨by decide, by decide⟩) (by decide) (Nat.le_of_ble_eq_true rfl)) (by decide) (by decide) (by decide) 299 rfl 53 rfl 54 rfl 55 rfl 56 rfl 57 rfl 58 rfl 59 rfl 60 rfl 2 rfl rfl Fc345 (g := (mkF m 196 #[oR r0, oR r1, oR r2, oI 3, oR b111, oR it_126, oR v1, oR it_271, oD d12, oV] [(.ref LL_341), (.ref b111)])) rfl (by rw [hml]; rfl) (argsL := [(.ref LL_341)]) (rest := []) (lenOf pd25 rfl) rfl (Nat.le_of_eq rfl) (hb hby d15_196) rfl (cN := 13) rfl (by decide) (sN := 53) rfl (by decide)
  obtain ⟨rfl, Nq353, P353_0, P353_1, P353_2, P353_3, P353_4⟩ := hQ353
  have N353 := Fr.app N341 Nq353
  have SK354 := Nat.le_trans SK342 P353_0.1
  have ZZ355 : n0 ≤ T353.heap.size := Nat.le_trans ZZ343 P353_0.1
  have KK356 : Keep h0 T353.heap [r0] := Keep.trans KK344 P353_0 (allS (Or.inr sz_b111) (allS (Or.inr sz_el_120) all0))
  have Vr357 : Arv Z T353.heap el_120 kel_120 (.object kOB) (2 : Int32) [(.ref LL_221), (.ref LL_341)] .null := P353_4
  have Fr358 : Fld Z T353.heap b111 kAL "size" "I" (.int 2) := (own_fi (by decide) P353_2)
  have Fr359 : Fld Z T353.heap b111 kABL "modCount" "I" (.int 2) := (own_fi (by decide) P353_3)
  have nq360 : it_126 ≠ it_271 := (Nat.ne_of_lt (Nat.lt_of_lt_of_le Fr263.lt P271_1))
  have Fc361 := ((((((Fr263.keep P271_0 nin0).keep P283_0 (ninS nq360 nin0)).keep P302_0 (ninS nq360 nin0)).keep P321_0 (ninS nq360 nin0)).keep P341_0 nin0).keep P353_0 (ninS (Ne.symm nq226) (ninS (Ne.symm nq231) nin0)))
  have Fc362 := ((((((P259_2.keep P271_0 nin0).keep P283_0 (ninS nq360 nin0)).keep P302_0 (ninS nq360 nin0)).keep P321_0 (ninS nq360 nin0)).keep P341_0 nin0).keep P353_0 (ninS (Ne.symm nq226) (ninS (Ne.symm nq231) nin0)))
  have Fc363 := ((((((P259_3.keep P271_0 nin0).keep P283_0 (ninS nq360 nin0)).keep P302_0 (ninS nq360 nin0)).keep P321_0 (ninS nq360 nin0)).keep P341_0 nin0).keep P353_0 (ninS (Ne.symm nq226) (ninS (Ne.symm nq231) nin0)))
  have Fc364 := ((((((P259_4.keep P271_0 nin0).keep P283_0 (ninS nq360 nin0)).keep P302_0 (ninS nq360 nin0)).keep P321_0 (ninS nq360 nin0)).keep P341_0 nin0).keep P353_0 (ninS (Ne.symm nq226) (ninS (Ne.symm nq231) nin0)))
  have Fc365 := (F_size_r2.keep KK356 (ninS nq117 nin0))
  have Fc367 := (((((((Fc249.keep P259_0).keep P271_0).keep P283_0).keep P302_0).keep P321_0).keep P341_0).keep P353_0)
  obtain ⟨_, T366, L366, X366, hQ366, st366⟩ := own_cI X353 hx hZ102 hw how102 (b := it_126) (W := 0) (rm_hn0 l Z a0 hw [] it_126 r2 (2 : Int32) (2 : Int32) (2 : Int32) (.int 1) T353.heap n0 ZZ355 Fc361 Fc362 Fc363 Fc364 Fc365 rfl) (by decide) (by decide) (by decide) 177 rfl 178 rfl 179 rfl 180 rfl 181 rfl 182 rfl 183 rfl 184 rfl 185 rfl 164 rfl rfl Fc367 (g := (mkF m 75 #[oR r0, oR r1, oR r2, oI 3, oR b111, oR it_126, oR v1, oR it_271, oD d12, oV] [(.ref it_126)])) rfl (by rw [hml]; rfl) (argsL := []) (rest := []) (lenOf pd15 rfl) rfl (Nat.le_of_eq rfl) (hb hby d15_75) rfl (cN := 13) rfl (by decide) (sN := 53) rfl (by decide)
  obtain ⟨rfl, Nq366, P366_0⟩ := hQ366
  have N366 := Fr.app N353 Nq366
  have Fc368 := ((((((((P221_3.keep P235_0).keep P259_0).keep P271_0).keep P283_0).keep P302_0).keep P321_0).keep P341_0).keep P353_0)
  obtain ⟨_, T369, L369, X369, hQ369, st369⟩ := own_cS X366 hx hZ102 hw how102 (W := 0) (rm_co2_2 l Z a0 hw [] b111 el_120 kel_120 LL_221 LL_341 mr T353.heap n0 ZZ355 (Fc345.keep P353_0) P353_1 Fr358 Vr357 (Fc352.keep P353_0) (Ins.of_exa Fc368 (own_w hw 300 rfl)) (Ins.of_exa (P341_3.keep P353_0) (own_w hw 300 rfl)) M_mr) (by decide) (by decide) (by decide) 216 rfl 217 rfl 218 rfl 219 rfl P366_0 (g := (mkF m 207 #[oR r0, oR r1, oR r2, oI 3, oR b111, oR it_126, oR v1, oR it_271, oD d12, oV] [(.ref b111)])) rfl (by rw [hml]; rfl) (argsL := [(.ref b111)]) (rest := []) (lenOf pd16 rfl) rfl (Nat.le_of_eq rfl) (hb hby d15_207) rfl (cN := 15) rfl (by decide) (sN := 57) rfl (by decide)
  obtain ⟨LL_369, rfl, Nq369, P369_0, P369_1, P369_2, P369_3, P369_4⟩ := hQ369
  have N369 := Fr.app N366 Nq369
  have g_LL_369 : n0 ≤ LL_369 := Nat.le_trans ZZ355 P369_1
  have sz_LL_369 : h0.size ≤ LL_369 := Nat.le_trans KK356.1 P369_1
  have SK370 := Nat.le_trans SK354 P369_0.1
  have ZZ371 : n0 ≤ T369.heap.size := Nat.le_trans ZZ355 P369_0.1
  have KK372 : Keep h0 T369.heap [r0] := Keep.trans KK356 P369_0 all0
  have Fc373 := (((Fc328.keep P341_0).keep P353_0).keep P369_0)
  have Fc374 := ((Fc345.keep P353_0).keep P369_0)
  have nq375 : r0 ≠ b111 := (ne_exa Fc373 Fc374 (by decide))
  have nq376 : r0 ≠ it_126 := (ne_exa Fc373 (Fc367.keep P369_0) (by decide))
  have Fc377 := ((((((((Fc253.keep P259_0).keep P271_0).keep P283_0).keep P302_0).keep P321_0).keep P341_0).keep P353_0).keep P369_0)
  have nq378 : r0 ≠ it_151 := (ne_exa Fc373 Fc377 (by decide))
  have Fc379 := ((Fc352.keep P353_0).keep P369_0)
  have nq380 : r0 ≠ el_120 := (ne_exa Fc373 Fc379 (by decide))
  have Fc381 := ((((Fc315.keep P321_0).keep P341_0).keep P353_0).keep P369_0)
  have nq382 : r0 ≠ it_271 := (ne_exa Fc373 Fc381 (by decide))
  have Fc383 := (((((((((((((((((((F_name_r0.ext E102).ext E111).keep P120_0 (ninS nq375 nin0)).keep P126_0 nin0).keep P140_0 (ninS nq376 nin0)).keep P151_0 nin0).keep P164_0 (ninS nq378 nin0)).keep P182_0 (ninS nq378 nin0)).keep P202_0 (ninS nq378 nin0)).keep P221_0 nin0).keep P235_0 (ninS nq375 (ninS nq380 nin0))).keep P259_0 (ninS nq376 nin0)).keep P271_0 nin0).keep P283_0 (ninS nq382 nin0)).keep P302_0 (ninS nq382 nin0)).keep P321_0 (ninS nq382 nin0)).keep P341_0 nin0).keep P353_0 (ninS nq375 (ninS nq380 nin0))).keep P369_0 nin0)
  obtain ⟨T384, h384, X384, e384, W384, st384⟩ := putF X369 hx hZ102 how102 (host := "") (Or.inl (own_w hw 317 rfl)) Via.refl rfl Fc383 Fc373 (Or.inr ⟨(own_w hw 318 rfl), rfl, hnm⟩) (own_w hw 89 rfl) (ty := (.object "java/lang/String")) (by decide) rfl rfl (g := (mkF m 213 #[oR r0, oR r1, oR LL_369, oI 3, oR b111, oR it_126, oR v1, oR it_271, oD d12, oV] [(.ref r1), (.ref r0)])) rfl rfl (hb hby d15_213)
  have Fw384 := Fc383.same W384
  have N384 := Fr.snoc X384 N369 g_r0
  have SK385 := Nat.le_trans SK370 (Nat.le_of_eq W384.size.symm)
  have ZZ386 : n0 ≤ h384.size := Nat.le_trans ZZ371 (Nat.le_of_eq W384.size.symm)
  have KK387 : Keep h0 h384 [r0] := KK372.wr W384 (Or.inl (List.mem_of_getElem? (i := 0) rfl))
  have Fc388 := ((((((((((((((((((((F_vectors_r0.ext E102).ext E111).keep P120_0 (ninS nq375 nin0)).keep P126_0 nin0).keep P140_0 (ninS nq376 nin0)).keep P151_0 nin0).keep P164_0 (ninS nq378 nin0)).keep P182_0 (ninS nq378 nin0)).keep P202_0 (ninS nq378 nin0)).keep P221_0 nin0).keep P235_0 (ninS nq375 (ninS nq380 nin0))).keep P259_0 (ninS nq376 nin0)).keep P271_0 nin0).keep P283_0 (ninS nq382 nin0)).keep P302_0 (ninS nq382 nin0)).keep P321_0 (ninS nq382 nin0)).keep P341_0 nin0).keep P353_0 (ninS nq375 (ninS nq380 nin0))).keep P369_0 nin0).other W384 (Or.inr (sn11 hw)))
  obtain ⟨T389, h389, X389, e389, W389, st389⟩ := putF X384 hx hZ102 how102 (host := "") (Or.inl (own_w hw 319 rfl)) Via.refl e384 Fc388 (Fc373.wr W384) (Or.inr ⟨(own_w hw 320 rfl), rfl, hnm⟩) (own_w hw 89 rfl) (ty := (.object "java/util/List")) (by decide) rfl rfl (g := (mkF m 218 #[oR r0, oR r1, oR LL_369, oI 3, oR b111, oR it_126, oR v1, oR it_271, oD d12, oV] [(.ref LL_369), (.ref r0)])) rfl rfl (hb hby d15_218)
  have Fw389 := Fc388.same W389
  have N389 := Fr.snoc X389 N384 g_r0
  have SK390 := Nat.le_trans SK385 (Nat.le_of_eq W389.size.symm)
  have ZZ391 : n0 ≤ h389.size := Nat.le_trans ZZ386 (Nat.le_of_eq W389.size.symm)
  have KK392 : Keep h0 h389 [r0] := KK387.wr W389 (Or.inl (List.mem_of_getElem? (i := 0) rfl))
  have Fc393 := ((P369_2.wr W384).wr W389)
  have Fc394 := ((Fc373.wr W384).wr W389)
  have nq395 : LL_369 ≠ r0 := (ne_exa Fc393 Fc394 (by decide))
  have nq396 : b111 ≠ LL_221 := (Nat.ne_of_lt (Nat.lt_of_lt_of_le ((((((P120_2.keep P126_0 nin0).keep P140_0 (ninS nq226 nin0)).keep P151_0 nin0).keep P164_0 (ninS nq227 nin0)).keep P182_0 (ninS nq227 nin0)).keep P202_0 (ninS nq227 nin0)).lt P221_1))
  have nq397 : el_120 ≠ LL_221 := (Nat.ne_of_lt (Nat.lt_of_lt_of_le ((((((P120_6.keep P126_0).keep P140_0).keep P151_0).keep P164_0).keep P182_0).keep P202_0).lt P221_1))
  have nq398 : it_126 ≠ LL_221 := (Nat.ne_of_lt (Nat.lt_of_lt_of_le ((((P140_1.keep P151_0 nin0).keep P164_0 (ninS nq242 nin0)).keep P182_0 (ninS nq242 nin0)).keep P202_0 (ninS nq242 nin0)).lt P221_1))
  have nq399 : LL_221 ≠ it_271 := (Nat.ne_of_lt (Nat.lt_of_lt_of_le ((P221_3.keep P235_0).keep P259_0).lt P271_1))
  have Fc400 := (((Fc368.keep P369_0).wr W384).wr W389)
  have nq401 : LL_221 ≠ r0 := (ne_exa Fc400 Fc394 (by decide))
  have nq402 : b111 ≠ A_221 := (Nat.ne_of_lt (Nat.lt_of_lt_of_le ((((((P120_2.keep P126_0 nin0).keep P140_0 (ninS nq226 nin0)).keep P151_0 nin0).keep P164_0 (ninS nq227 nin0)).keep P182_0 (ninS nq227 nin0)).keep P202_0 (ninS nq227 nin0)).lt P221_2))
  have nq403 : el_120 ≠ A_221 := (Nat.ne_of_lt (Nat.lt_of_lt_of_le ((((((P120_6.keep P126_0).keep P140_0).keep P151_0).keep P164_0).keep P182_0).keep P202_0).lt P221_2))
  have nq404 : it_126 ≠ A_221 := (Nat.ne_of_lt (Nat.lt_of_lt_of_le ((((P140_1.keep P151_0 nin0).keep P164_0 (ninS nq242 nin0)).keep P182_0 (ninS nq242 nin0)).keep P202_0 (ninS nq242 nin0)).lt P221_2))
  have nq405 : A_221 ≠ it_271 := (Nat.ne_of_lt (Nat.lt_of_lt_of_le ((P221_7.keep P235_0).keep P259_0).lt P271_1))
  have Fc406 := (((((((((((P221_7.keep P235_0).keep P259_0).keep P271_0).keep P283_0).keep P302_0).keep P321_0).keep P341_0).keep P353_0).keep P369_0).wr W384).wr W389)
  have nq407 : A_221 ≠ r0 := (ne_exa Fc406 Fc394 (by decide))
  have nq408 : b111 ≠ LL_341 := (Nat.ne_of_lt (Nat.lt_of_lt_of_le (((((P235_2.keep P259_0 (ninS nq226 nin0)).keep P271_0 nin0).keep P283_0 (ninS nq346 nin0)).keep P302_0 (ninS nq346 nin0)).keep P321_0 (ninS nq346 nin0)).lt P341_1))
  have nq409 : el_120 ≠ LL_341 := (Nat.ne_of_lt (Nat.lt_of_lt_of_le (((((P235_4.keep P259_0 (ninS nq231 nin0)).keep P271_0 nin0).keep P283_0 (ninS nq350 nin0)).keep P302_0 (ninS nq350 nin0)).keep P321_0 (ninS nq350 nin0)).lt P341_1))
  have Fc410 := ((((P341_3.keep P353_0).keep P369_0).wr W384).wr W389)
  have nq411 : LL_341 ≠ r0 := (ne_exa Fc410 Fc394 (by decide))
  have nq412 : b111 ≠ A_341 := (Nat.ne_of_lt (Nat.lt_of_lt_of_le (((((P235_2.keep P259_0 (ninS nq226 nin0)).keep P271_0 nin0).keep P283_0 (ninS nq346 nin0)).keep P302_0 (ninS nq346 nin0)).keep P321_0 (ninS nq346 nin0)).lt P341_2))
  have nq413 : el_120 ≠ A_341 := (Nat.ne_of_lt (Nat.lt_of_lt_of_le (((((P235_4.keep P259_0 (ninS nq231 nin0)).keep P271_0 nin0).keep P283_0 (ninS nq350 nin0)).keep P302_0 (ninS nq350 nin0)).keep P321_0 (ninS nq350 nin0)).lt P341_2))
  have Fc414 := ((((P341_7.keep P353_0).keep P369_0).wr W384).wr W389)
  have nq415 : A_341 ≠ r0 := (ne_exa Fc414 Fc394 (by decide))
  obtain ⟨fs, hr, hrun, hended, hREW⟩ := X389.leaveW hS102 (by rw [e389]; exact SK390) (v := none) (fun _ => rfl)
  refine ⟨_, _, pre0 _ ?_, hrun, hended, _, _, rfl, ?_, hREW.1, hREW.2.1, hREW.2.2.1, hREW.2.2.2.mono (by decide) (by decide)⟩
  · show own_S p e below s₁ m 0 #[oR r0, oR r1, oR r2, oU, oU, oU, oU, oU, oU, oU] [] _
    refine XS.aloadN X0.here hx rfl (hb hby d15_0) rfl rfl ?_
    show own_S p e below s₁ m 1 _ [(.ref r0)] _
    refine st101.trans ?_
    show own_S p e below T101 m 4 _ [] _
    refine XS.aloadN X101.here hx rfl (hb hby d15_4) rfl rfl ?_
    show own_S p e below T101 m 5 _ [(.ref r1)] _
    refine st102 _ ?_
    show own_S p e below T102 m 7 _ [(.ref b102), (.ref r1)] _
    refine st105.trans ?_
    show own_S p e below T105 m 10 _ [(.ref r1)] _
    refine XS.pop X105.here hx rfl (hb hby d15_10) rfl rfl ?_
    show own_S p e below T105 m 11 _ [] _
    refine XS.aloadN X105.here hx rfl (hb hby d15_11) rfl rfl ?_
    show own_S p e below T105 m 12 #[oR r0, oR r1, oR r2, oU, oU, oU, oU, oU, oU, oU] [(.ref r2)] _
    refine st106.trans ?_
    show own_S p e below T106 m 17 _ [(.int 0)] _
    refine XS.ifYes X106.here hx rfl (pc0 := 17) (pc' := 34) rfl (hb hby d15_17) rfl ((if0 _ _).trans (teq (by decide : (0 : Int32) = (0 : Int32))).1) (by decide) (by decide) ?_
    refine XS.aloadN X106.here hx rfl (hb hby d15_34) rfl rfl ?_
    refine XS.iconst X106.here hx rfl (hb hby d15_35) ?_
    show own_S p e below T106 m 36 _ [(.int 0), (.ref r2)] _
    refine st108.trans ?_
    show own_S p e below T108 m 41 _ [(.ref v0)] _
    refine st109 _ ?_
    show own_S p e below T109 m 44 _ [(.ref v0)] _
    refine st110.trans ?_
    show own_S p e below T110 m 49 #[oR r0, oR r1, oR r2, oU, oU, oU, oU, oU, oU, oU] [(.int 3)] _
    refine XS.istoreN X110.here hx rfl (hb hby d15_49) rfl (l' := #[oR r0, oR r1, oR r2, oI 3, oU, oU, oU, oU, oU, oU]) rfl ?_
    show own_S p e below T110 m 50 #[oR r0, oR r1, oR r2, oI 3, oU, oU, oU, oU, oU, oU] [] _
    refine st111 _ ?_
    show own_S p e below T111 m 53 _ [(.ref b111)] _
    refine XS.dup X111.here hx rfl (hb hby d15_53) rfl rfl ?_
    refine XS.aloadN X111.here hx rfl (hb hby d15_54) rfl rfl ?_
    show own_S p e below T111 m 55 _ [(.ref r2), (.ref b111), (.ref b111)] _
    refine st119.trans ?_
    show own_S p e below T119 m 60 _ [(.int 2), (.ref b111), (.ref b111)] _
    refine st120.trans ?_
    show own_S p e below T120 m 63 _ [(.ref b111)] _
    refine XS.astore X120.here hx rfl (hb hby d15_63) rfl rfl (l' := #[oR r0, oR r1, oR r2, oI 3, oR b111, oU, oU, oU, oU, oU]) rfl ?_
    refine XS.aloadN X120.here hx rfl (hb hby d15_65) rfl rfl ?_
    show own_S p e below T120 m 66 _ [(.ref r2)] _
    refine st126.trans ?_
    show own_S p e below T126 m 71 _ [(.ref it_126)] _
    refine XS.astore X126.here hx rfl (hb hby d15_71) rfl rfl (l' := #[oR r0, oR r1, oR r2, oI 3, oR b111, oR it_126, oU, oU, oU, oU]) rfl ?_
    refine XS.aload X126.here hx rfl (hb hby d15_73) rfl rfl ?_
    show own_S p e below T126 m 75 _ [(.ref it_126)] _
    refine st131.trans ?_
    show own_S p e below T131 m 80 _ [(.int 1)] _
    refine XS.ifNo X131.here hx rfl (hb hby d15_80) rfl ((if0 _ _).trans (feq (by decide : ¬ ((1 : Int32) = (0 : Int32)))).1) ?_
    refine XS.aload X131.here hx rfl (hb hby d15_83) rfl rfl ?_
    show own_S p e below T131 m 85 _ [(.ref it_126)] _
    refine st140.trans ?_
    show own_S p e below T140 m 90 _ [(.ref v0)] _
    refine st146 _ ?_
    show own_S p e below T146 m 93 _ [(.ref v0)] _
    refine XS.astore X146.here hx rfl (hb hby d15_93) rfl rfl (l' := #[oR r0, oR r1, oR r2, oI 3, oR b111, oR it_126, oR v0, oU, oU, oU]) rfl ?_
    refine XS.aload X146.here hx rfl (hb hby d15_95) rfl rfl ?_
    show own_S p e below T146 m 97 _ [(.ref v0)] _
    refine st149.trans ?_
    show own_S p e below T149 m 102 _ [(.int 3)] _
    refine XS.iloadN X149.here hx rfl (hb hby d15_102) rfl ?_
    refine XS.icmpYes X149.here hx rfl (pc0 := 103) (pc' := 128) rfl (hb hby d15_103) rfl (teq (by decide : (3 : Int32) = (3 : Int32))).1 (by decide) (by decide) ?_
    refine XS.aload X149.here hx rfl (hb hby d15_128) rfl rfl ?_
    show own_S p e below T149 m 130 _ [(.ref v0)] _
    refine st151.trans ?_
    show own_S p e below T151 m 135 _ [(.ref it_151)] _
    refine XS.astore X151.here hx rfl (hb hby d15_135) rfl rfl (l' := #[oR r0, oR r1, oR r2, oI 3, oR b111, oR it_126, oR v0, oR it_151, oU, oU]) rfl ?_
    refine XS.aload X151.here hx rfl (hb hby d15_137) rfl rfl ?_
    show own_S p e below T151 m 139 _ [(.ref it_151)] _
    refine st156.trans ?_
    show own_S p e below T156 m 144 _ [(.int 1)] _
    refine XS.ifNo X156.here hx rfl (hb hby d15_144) rfl ((if0 _ _).trans (feq (by decide : ¬ ((1 : Int32) = (0 : Int32)))).1) ?_
    refine XS.aload X156.here hx rfl (hb hby d15_147) rfl rfl ?_
    show own_S p e below T156 m 149 _ [(.ref it_151)] _
    refine st164.trans ?_
    show own_S p e below T164 m 154 _ [(.ref x00)] _
    refine st170 _ ?_
    show own_S p e below T170 m 157 _ [(.ref x00)] _
    refine st173.trans ?_
    show own_S p e below T173 m 160 #[oR r0, oR r1, oR r2, oI 3, oR b111, oR it_126, oR v0, oR it_151, oU, oU] [(.double d00)] _
    refine XS.dstore X173.here hx rfl (hb hby d15_160) rfl (l' := #[oR r0, oR r1, oR r2, oI 3, oR b111, oR it_126, oR v0, oR it_151, oD d00, oV]) rfl ?_
    refine XS.dload X173.here hx rfl (hb hby d15_162) rfl ?_
    show own_S p e below T173 m 164 _ [(.double d00)] _
    refine st174.trans ?_
    show own_S p e below T174 m 167 _ [(.int 1)] _
    refine XS.ifYes X174.here hx rfl (pc0 := 167) (pc' := 186) rfl (hb hby d15_167) rfl ((if0 _ _).trans (feq (by decide : ¬ ((1 : Int32) = (0 : Int32)))).2) (by decide) (by decide) ?_
    refine XS.goto X174.here hx rfl (pc0 := 186) (pc' := 137) rfl (hb hby d15_186) (by decide) (by decide) ?_
    refine XS.aload X174.here hx rfl (hb hby d15_137) rfl rfl ?_
    show own_S p e below T174 m 139 _ [(.ref it_151)] _
    refine st176.trans ?_
    show own_S p e below T176 m 144 _ [(.int 1)] _
    refine XS.ifNo X176.here hx rfl (hb hby d15_144) rfl ((if0 _ _).trans (feq (by decide : ¬ ((1 : Int32) = (0 : Int32)))).1) ?_
    refine XS.aload X176.here hx rfl (hb hby d15_147) rfl rfl ?_
    show own_S p e below T176 m 149 _ [(.ref it_151)] _
    refine st182.trans ?_
    show own_S p e below T182 m 154 _ [(.ref x01)] _
    refine st188 _ ?_
    show own_S p e below T188 m 157 _ [(.ref x01)] _
    refine st192.trans ?_
    show own_S p e below T192 m 160 _ [(.double d01)] _
    refine XS.dstore X192.here hx rfl (hb hby d15_160) rfl (l' := #[oR r0, oR r1, oR r2, oI 3, oR b111, oR it_126, oR v0, oR it_151, oD d01, oV]) rfl ?_
    refine XS.dload X192.here hx rfl (hb hby d15_162) rfl ?_
    show own_S p e below T192 m 164 _ [(.double d01)] _
    refine st193.trans ?_
    show own_S p e below T193 m 167 _ [(.int 1)] _
    refine XS.ifYes X193.here hx rfl (pc0 := 167) (pc' := 186) rfl (hb hby d15_167) rfl ((if0 _ _).trans (feq (by decide : ¬ ((1 : Int32) = (0 : Int32)))).2) (by decide) (by decide) ?_
    refine XS.goto X193.here hx rfl (pc0 := 186) (pc' := 137) rfl (hb hby d15_186) (by decide) (by decide) ?_
    refine XS.aload X193.here hx rfl (hb hby d15_137) rfl rfl ?_
    show own_S p e below T193 m 139 _ [(.ref it_151)] _
    refine st195.trans ?_
    show own_S p e below T195 m 144 _ [(.int 1)] _
    refine XS.ifNo X195.here hx rfl (hb hby d15_144) rfl ((if0 _ _).trans (feq (by decide : ¬ ((1 : Int32) = (0 : Int32)))).1) ?_
    refine XS.aload X195.here hx rfl (hb hby d15_147) rfl rfl ?_
    show own_S p e below T195 m 149 _ [(.ref it_151)] _
    refine st202.trans ?_
    show own_S p e below T202 m 154 _ [(.ref x02)] _
    refine st208 _ ?_
    show own_S p e below T208 m 157 _ [(.ref x02)] _
    refine st211.trans ?_
    show own_S p e below T211 m 160 _ [(.double d02)] _
    refine XS.dstore X211.here hx rfl (hb hby d15_160) rfl (l' := #[oR r0, oR r1, oR r2, oI 3, oR b111, oR it_126, oR v0, oR it_151, oD d02, oV]) rfl ?_
    refine XS.dload X211.here hx rfl (hb hby d15_162) rfl ?_
    show own_S p e below T211 m 164 _ [(.double d02)] _
    refine st212.trans ?_
    show own_S p e below T212 m 167 _ [(.int 1)] _
    refine XS.ifYes X212.here hx rfl (pc0 := 167) (pc' := 186) rfl (hb hby d15_167) rfl ((if0 _ _).trans (feq (by decide : ¬ ((1 : Int32) = (0 : Int32)))).2) (by decide) (by decide) ?_
    refine XS.goto X212.here hx rfl (pc0 := 186) (pc' := 137) rfl (hb hby d15_186) (by decide) (by decide) ?_
    refine XS.aload X212.here hx rfl (hb hby d15_137) rfl rfl ?_
    show own_S p e below T212 m 139 _ [(.ref it_151)] _
    refine st214.trans ?_
    show own_S p e below T214 m 144 _ [(.int 0)] _
    refine XS.ifYes X214.here hx rfl (pc0 := 144) (pc' := 189) rfl (hb hby d15_144) rfl ((if0 _ _).trans (teq (by decide : (0 : Int32) = (0 : Int32))).1) (by decide) (by decide) ?_
    refine XS.aload X214.here hx rfl (hb hby d15_189) rfl rfl ?_
    refine XS.aload X214.here hx rfl (hb hby d15_191) rfl rfl ?_
    show own_S p e below T214 m 193 _ [(.ref v0), (.ref b111)] _
    refine st221.trans ?_
    show own_S p e below T221 m 196 _ [(.ref LL_221), (.ref b111)] _
    refine st235.trans ?_
    show own_S p e below T235 m 201 _ [(.int 1)] _
    refine XS.pop X235.here hx rfl (hb hby d15_201) rfl rfl ?_
    show own_S p e below T235 m 202 _ [] _
    refine XS.goto X235.here hx rfl (pc0 := 202) (pc' := 73) rfl (hb hby d15_202) (by decide) (by decide) ?_
    refine XS.aload X235.here hx rfl (hb hby d15_73) rfl rfl ?_
    show own_S p e below T235 m 75 #[oR r0, oR r1, oR r2, oI 3, oR b111, oR it_126, oR v0, oR it_151, oD d02, oV] [(.ref it_126)] _
    refine st248.trans ?_
    show own_S p e below T248 m 80 _ [(.int 1)] _
    refine XS.ifNo X248.here hx rfl (hb hby d15_80) rfl ((if0 _ _).trans (feq (by decide : ¬ ((1 : Int32) = (0 : Int32)))).1) ?_
    refine XS.aload X248.here hx rfl (hb hby d15_83) rfl rfl ?_
    show own_S p e below T248 m 85 _ [(.ref it_126)] _
    refine st259.trans ?_
    show own_S p e below T259 m 90 _ [(.ref v1)] _
    refine st265 _ ?_
    show own_S p e below T265 m 93 _ [(.ref v1)] _
    refine XS.astore X265.here hx rfl (hb hby d15_93) rfl rfl (l' := #[oR r0, oR r1, oR r2, oI 3, oR b111, oR it_126, oR v1, oR it_151, oD d02, oV]) rfl ?_
    refine XS.aload X265.here hx rfl (hb hby d15_95) rfl rfl ?_
    show own_S p e below T265 m 97 _ [(.ref v1)] _
    refine st269.trans ?_
    show own_S p e below T269 m 102 _ [(.int 3)] _
    refine XS.iloadN X269.here hx rfl (hb hby d15_102) rfl ?_
    refine XS.icmpYes X269.here hx rfl (pc0 := 103) (pc' := 128) rfl (hb hby d15_103) rfl (teq (by decide : (3 : Int32) = (3 : Int32))).1 (by decide) (by decide) ?_
    refine XS.aload X269.here hx rfl (hb hby d15_128) rfl rfl ?_
    show own_S p e below T269 m 130 _ [(.ref v1)] _
    refine st271.trans ?_
    show own_S p e below T271 m 135 _ [(.ref it_271)] _
    refine XS.astore X271.here hx rfl (hb hby d15_135) rfl rfl (l' := #[oR r0, oR r1, oR r2, oI 3, oR b111, oR it_126, oR v1, oR it_271, oD d02, oV]) rfl ?_
    refine XS.aload X271.here hx rfl (hb hby d15_137) rfl rfl ?_
    show own_S p e below T271 m 139 _ [(.ref it_271)] _
    refine st276.trans ?_
    show own_S p e below T276 m 144 _ [(.int 1)] _
    refine XS.ifNo X276.here hx rfl (hb hby d15_144) rfl ((if0 _ _).trans (feq (by decide : ¬ ((1 : Int32) = (0 : Int32)))).1) ?_
    refine XS.aload X276.here hx rfl (hb hby d15_147) rfl rfl ?_
    show own_S p e below T276 m 149 _ [(.ref it_271)] _
    refine st283.trans ?_
    show own_S p e below T283 m 154 _ [(.ref x10)] _
    refine st289 _ ?_
    show own_S p e below T289 m 157 _ [(.ref x10)] _
    refine st293.trans ?_
    show own_S p e below T293 m 160 #[oR r0, oR r1, oR r2, oI 3, oR b111, oR it_126, oR v1, oR it_271, oD d02, oV] [(.double d10)] _
    refine XS.dstore X293.here hx rfl (hb hby d15_160) rfl (l' := #[oR r0, oR r1, oR r2, oI 3, oR b111, oR it_126, oR v1, oR it_271, oD d10, oV]) rfl ?_
    refine XS.dload X293.here hx rfl (hb hby d15_162) rfl ?_
    show own_S p e below T293 m 164 _ [(.double d10)] _
    refine st294.trans ?_
    show own_S p e below T294 m 167 _ [(.int 1)] _
    refine XS.ifYes X294.here hx rfl (pc0 := 167) (pc' := 186) rfl (hb hby d15_167) rfl ((if0 _ _).trans (feq (by decide : ¬ ((1 : Int32) = (0 : Int32)))).2) (by decide) (by decide) ?_
    refine XS.goto X294.here hx rfl (pc0 := 186) (pc' := 137) rfl (hb hby d15_186) (by decide) (by decide) ?_
    refine XS.aload X294.here hx rfl (hb hby d15_137) rfl rfl ?_
    show own_S p e below T294 m 139 _ [(.ref it_271)] _
    refine st296.trans ?_
    show own_S p e below T296 m 144 _ [(.int 1)] _
    refine XS.ifNo X296.here hx rfl (hb hby d15_144) rfl ((if0 _ _).trans (feq (by decide : ¬ ((1 : Int32) = (0 : Int32)))).1) ?_
    refine XS.aload X296.here hx rfl (hb hby d15_147) rfl rfl ?_
    show own_S p e below T296 m 149 _ [(.ref it_271)] _
    refine st302.trans ?_
    show own_S p e below T302 m 154 _ [(.ref x11)] _
    refine st308 _ ?_
    show own_S p e below T308 m 157 _ [(.ref x11)] _
    refine st311.trans ?_
    show own_S p e below T311 m 160 _ [(.double d11)] _
    refine XS.dstore X311.here hx rfl (hb hby d15_160) rfl (l' := #[oR r0, oR r1, oR r2, oI 3, oR b111, oR it_126, oR v1, oR it_271, oD d11, oV]) rfl ?_
    refine XS.dload X311.here hx rfl (hb hby d15_162) rfl ?_
    show own_S p e below T311 m 164 _ [(.double d11)] _
    refine st312.trans ?_
    show own_S p e below T312 m 167 _ [(.int 1)] _
    refine XS.ifYes X312.here hx rfl (pc0 := 167) (pc' := 186) rfl (hb hby d15_167) rfl ((if0 _ _).trans (feq (by decide : ¬ ((1 : Int32) = (0 : Int32)))).2) (by decide) (by decide) ?_
    refine XS.goto X312.here hx rfl (pc0 := 186) (pc' := 137) rfl (hb hby d15_186) (by decide) (by decide) ?_
    refine XS.aload X312.here hx rfl (hb hby d15_137) rfl rfl ?_
    show own_S p e below T312 m 139 _ [(.ref it_271)] _
    refine st314.trans ?_
    show own_S p e below T314 m 144 _ [(.int 1)] _
    refine XS.ifNo X314.here hx rfl (hb hby d15_144) rfl ((if0 _ _).trans (feq (by decide : ¬ ((1 : Int32) = (0 : Int32)))).1) ?_
    refine XS.aload X314.here hx rfl (hb hby d15_147) rfl rfl ?_
    show own_S p e below T314 m 149 _ [(.ref it_271)] _
    refine st321.trans ?_
    show own_S p e below T321 m 154 _ [(.ref x12)] _
    refine st327 _ ?_
    show own_S p e below T327 m 157 _ [(.ref x12)] _
    refine st331.trans ?_
    show own_S p e below T331 m 160 _ [(.double d12)] _
    refine XS.dstore X331.here hx rfl (hb hby d15_160) rfl (l' := #[oR r0, oR r1, oR r2, oI 3, oR b111, oR it_126, oR v1, oR it_271, oD d12, oV]) rfl ?_
    refine XS.dload X331.here hx rfl (hb hby d15_162) rfl ?_
    show own_S p e below T331 m 164 _ [(.double d12)] _
    refine st332.trans ?_
    show own_S p e below T332 m 167 _ [(.int 1)] _
    refine XS.ifYes X332.here hx rfl (pc0 := 167) (pc' := 186) rfl (hb hby d15_167) rfl ((if0 _ _).trans (feq (by decide : ¬ ((1 : Int32) = (0 : Int32)))).2) (by decide) (by decide) ?_
    refine XS.goto X332.here hx rfl (pc0 := 186) (pc' := 137) rfl (hb hby d15_186) (by decide) (by decide) ?_
    refine XS.aload X332.here hx rfl (hb hby d15_137) rfl rfl ?_
    show own_S p e below T332 m 139 _ [(.ref it_271)] _
    refine st334.trans ?_
    show own_S p e below T334 m 144 _ [(.int 0)] _
    refine XS.ifYes X334.here hx rfl (pc0 := 144) (pc' := 189) rfl (hb hby d15_144) rfl ((if0 _ _).trans (teq (by decide : (0 : Int32) = (0 : Int32))).1) (by decide) (by decide) ?_
    refine XS.aload X334.here hx rfl (hb hby d15_189) rfl rfl ?_
    refine XS.aload X334.here hx rfl (hb hby d15_191) rfl rfl ?_
    show own_S p e below T334 m 193 _ [(.ref v1), (.ref b111)] _
    refine st341.trans ?_
    show own_S p e below T341 m 196 _ [(.ref LL_341), (.ref b111)] _
    refine st353.trans ?_
    show own_S p e below T353 m 201 _ [(.int 1)] _
    refine XS.pop X353.here hx rfl (hb hby d15_201) rfl rfl ?_
    show own_S p e below T353 m 202 _ [] _
    refine XS.goto X353.here hx rfl (pc0 := 202) (pc' := 73) rfl (hb hby d15_202) (by decide) (by decide) ?_
    refine XS.aload X353.here hx rfl (hb hby d15_73) rfl rfl ?_
    show own_S p e below T353 m 75 #[oR r0, oR r1, oR r2, oI 3, oR b111, oR it_126, oR v1, oR it_271, oD d12, oV] [(.ref it_126)] _
    refine st366.trans ?_
    show own_S p e below T366 m 80 _ [(.int 0)] _
    refine XS.ifYes X366.here hx rfl (pc0 := 80) (pc' := 205) rfl (hb hby d15_80) rfl ((if0 _ _).trans (teq (by decide : (0 : Int32) = (0 : Int32))).1) (by decide) (by decide) ?_
    refine XS.aload X366.here hx rfl (hb hby d15_205) rfl rfl ?_
    show own_S p e below T366 m 207 _ [(.ref b111)] _
    refine st369.trans ?_
    show own_S p e below T369 m 210 _ [(.ref LL_369)] _
    refine XS.astoreN X369.here hx rfl (hb hby d15_210) rfl rfl (l' := #[oR r0, oR r1, oR LL_369, oI 3, oR b111, oR it_126, oR v1, oR it_271, oD d12, oV]) rfl ?_
    refine XS.aloadN X369.here hx rfl (hb hby d15_211) rfl rfl ?_
    refine XS.aloadN X369.here hx rfl (hb hby d15_212) rfl rfl ?_
    show own_S p e below T369 m 213 _ [(.ref r1), (.ref r0)] _
    refine st384 _ ?_
    show own_S p e below T384 m 216 _ [] _
    refine XS.aloadN X384.here hx rfl (hb hby d15_216) rfl rfl ?_
    refine XS.aloadN X384.here hx rfl (hb hby d15_217) rfl rfl ?_
    show own_S p e below T384 m 218 _ [(.ref LL_369), (.ref r0)] _
    refine st389 _ ?_
    show own_S p e below T389 m 221 _ [] _
    exact X389.returnOut hx Bd.returns (hb hby d15_221) hr
  · show Qm15 Z r0 r1 r2 w0 w1 el v0 v1 el0 el1 x00 x01 x02 x10 x11 x12 kel kel0 kel1 d00 d01 d02 d10 d11 d12 mr h0 n0 _ T389.heap _
    rw [e389]
    exact ⟨LL_369, LL_221, LL_341, A_221, A_341, kA_221, kA_341, rfl, N389, KK392, sz_LL_369, sz_LL_221, sz_LL_341, sz_A_221, sz_A_341, (Fw384.other W389 (Or.inr (Ne.symm (sn11 hw)))), Fw389, ((P369_2.wr W384).wr W389), ((P369_3.other W384 (Or.inl nq395)).other W389 (Or.inl nq395)), ((P369_4.other W384 (Or.inl nq395)).other W389 (Or.inl nq395)), (((Fc368.keep P369_0).wr W384).wr W389), (((((((((((P221_4.keep P235_0 (ninS (Ne.symm nq396) (ninS (Ne.symm nq397) nin0))).keep P259_0 (ninS (Ne.symm nq398) nin0)).keep P271_0 nin0).keep P283_0 (ninS nq399 nin0)).keep P302_0 (ninS nq399 nin0)).keep P321_0 (ninS nq399 nin0)).keep P341_0 nin0).keep P353_0 (ninS (Ne.symm nq396) (ninS (Ne.symm nq397) nin0))).keep P369_0 nin0).other W384 (Or.inl nq401)).other W389 (Or.inl nq401)), (((((((((((P221_5.keep P235_0 (ninS (Ne.symm nq396) (ninS (Ne.symm nq397) nin0))).keep P259_0 (ninS (Ne.symm nq398) nin0)).keep P271_0 nin0).keep P283_0 (ninS nq399 nin0)).keep P302_0 (ninS nq399 nin0)).keep P321_0 (ninS nq399 nin0)).keep P341_0 nin0).keep P353_0 (ninS (Ne.symm nq396) (ninS (Ne.symm nq397) nin0))).keep P369_0 nin0).other W384 (Or.inl nq401)).other W389 (Or.inl nq401)), (((((((((((P221_6.keep P235_0 (ninS (Ne.symm nq402) (ninS (Ne.symm nq403) nin0))).keep P259_0 (ninS (Ne.symm nq404) nin0)).keep P271_0 nin0).keep P283_0 (ninS nq405 nin0)).keep P302_0 (ninS nq405 nin0)).keep P321_0 (ninS nq405 nin0)).keep P341_0 nin0).keep P353_0 (ninS (Ne.symm nq402) (ninS (Ne.symm nq403) nin0))).keep P369_0 nin0).other W384 nq407).other W389 nq407), Fc406, ((((P341_3.keep P353_0).keep P369_0).wr W384).wr W389), ((((P341_4.keep P353_0 (ninS (Ne.symm nq408) (ninS (Ne.symm nq409) nin0))).keep P369_0 nin0).other W384 (Or.inl nq411)).other W389 (Or.inl nq411)), ((((P341_5.keep P353_0 (ninS (Ne.symm nq408) (ninS (Ne.symm nq409) nin0))).keep P369_0 nin0).other W384 (Or.inl nq411)).other W389 (Or.inl nq411)), ((((P341_6.keep P353_0 (ninS (Ne.symm nq412) (ninS (Ne.symm nq413) nin0))).keep P369_0 nin0).other W384 nq415).other W389 nq415), Fc414⟩
theorem d48_0 : decode k48 0 = .ok (.aload_n 0, 1) := by decide +kernel
theorem d48_1 : decode k48 1 = .ok (.getfield 24, 3) := by decide +kernel
theorem d48_4 : decode k48 4 = .ok (.getstatic 19, 3) := by decide +kernel
theorem d48_7 : decode k48 7 = .ok (.if_acmp .eq 7, 3) := by decide +kernel
theorem d48_10 : decode k48 10 = .ok (.iconst 2, 1) := by decide +kernel
theorem d48_11 : decode k48 11 = .ok (.goto 4, 3) := by decide +kernel
theorem d48_15 : decode k48 15 = .ok (.ireturn, 1) := by decide +kernel
theorem efm48 (m : MethodId) (r0 : Addr) : entryFrame m #[(.ref r0)] 1 = mkF m 0 #[oR r0] [] := by first | (simp [entryFrame, mkF, argsToLocals, Value.category]; done) | rfl
def Qm48 (Z : State) (r0 : Addr) (x0 : Addr) (x1 : Addr) (em : Addr) (h0 : Heap) (n0 : Nat) (v : Option Value) (h : Heap) (L : List Loc) : Prop := v = some (.int 2) ∧ Fr n0 L ∧ (h = h0)
set_option maxRecDepth 65536 in
set_option maxHeartbeats 40000000 in
theorem rmm48 (l : Launch) (Z : State) (a0 : Array Value) (hw : own_HW Z a0) (ws : List Jvm.Cond) (r0 : Addr) (x0 : Addr) (x1 : Addr) (em : Addr) (h0 : Heap) (n0 : Nat) (Z0 : n0 ≤ h0.size) (F_e0_r0 : Fld Z h0 r0 kL12 "e0" "Ljava/lang/Object;" (.ref x0)) (F_e1_r0 : Fld Z h0 r0 kL12 "e1" "Ljava/lang/Object;" (.ref x1)) (hOld : Old Z n0 h0) (S_EMPTY : Sta Z Z.heap "java/util/ImmutableCollections" "EMPTY" "Ljava/lang/Object;" (.ref em)) (E_em : Exa Z Z.heap em kOB) (ne_x1_em : x1 ≠ em) :
    MetFree l (⟨kL12, "size", "()I"⟩ : MethodName) (head1 (Jvm.Cond.code (⟨kL12, "size", "()I"⟩ : MethodName) jdk_44_method_3_code 1 (some .int) :: ws) ({ frames := 0, cells := 0, slots := 0, locals := 0 } : Room)) (fun a U => a = #[(.ref r0)] ∧ Z.Warmed39 U.vm ∧ U.heap = h0) (fun _ _ _ _ _ => True) (fun _ U o U' => ∃ v L, o = .returned v ∧ Qm48 Z r0 x0 x1 em h0 n0 v U'.heap L ∧ FrameEnd U o U' L ({ frames := 0, cells := 0, slots := 0, locals := 0 } : Room).cells ({ frames := 0, cells := 0, slots := 0, locals := 0 } : Room).slots) := by
  refine MetFree.of_bodySF (plainFor_of_name pn10) hisR ?_
  intro p e s m args below meth c s₁ Bd hml0 hP hK
  obtain ⟨rfl, hZ, hh⟩ := hP
  have hx := Bd.exec
  have hby := Bd.bytes
  have hml : c.maxLocals = 1 := hml0
  have hown : s.vm.findClass kL12 = some m.cls := findClass_of_methodNamed Bd.named
  have hnm := (name_of_methodNamed Bd.named Bd.method).1
  have X0 : Stand p l e ({ frames := 0, cells := 0, slots := 0, locals := 0 } : Room) s m #[(.ref r0)] below meth c s₁ [] 0 0 := Stand.of_body Bd
  have e0 : s₁.heap = h0 := by rw [← hh, Bd.state]; rfl
  have N0 := Fr.nil n0
  have pre0 : ∀ t, Steps p.tables e below (s₁.setTop (mkF m 0 #[oR r0] [])) t → Steps p.tables e below (s₁.setTop (entryFrame m #[(.ref r0)] 1)) t := fun t k => castTop (efm48 m r0) k
  obtain ⟨T101, X101, e101, st101⟩ := getF X0 hx hZ hown (host := "") (Or.inl (own_w hw 315 rfl)) Via.refl e0 F_e1_r0 (g := (mkF m 1 #[oR r0] [(.ref r0)])) rfl rfl (hb hby d48_1)
  have Fz102 := (S_EMPTY.ext hOld.2)
  obtain ⟨T103, X103, e103, st103⟩ := getS2 X101 hx hZ hown (Or.inr (own_w hw 348 rfl)) Via.refl e101 Fz102 (g := (mkF m 4 #[oR r0] [(.ref x1)])) rfl (hb hby d48_4)
  obtain ⟨fs, hr, hrun, hended, hW, hsame⟩ := X103.leave (v := some (.int 2)) (fun h => by rw [Bd.returns] at h; cases h)
  refine ⟨_, _, pre0 _ ?_, hrun, hended, _, _, rfl, ?_, ⟨_, rfl⟩, hW, hsame.mono (by decide) (by decide)⟩
  · show own_S p e below s₁ m 0 #[oR r0] [] _
    refine XS.aloadN X0.here hx rfl (hb hby d48_0) rfl rfl ?_
    show own_S p e below s₁ m 1 _ [(.ref r0)] _
    refine st101 _ ?_
    show own_S p e below T101 m 4 _ [(.ref x1)] _
    refine st103 _ ?_
    show own_S p e below T103 m 7 _ [(.ref em), (.ref x1)] _
    refine Jvm.RoadKit.acmp (g := (mkF m 7 #[oR r0] [(.ref em), (.ref x1)])) X103 hx rfl rfl rfl (pc0 := 7) (pc' := 10) (same := false) rfl (hb hby d48_7) rfl (decide_eq_false fun q => ne_x1_em (Value.ref.inj q)) (by decide) (by decide) ?_
    show own_S p e below T103 m 10 _ [] _
    refine XS.iconst X103.here hx rfl (hb hby d48_10) ?_
    refine XS.goto X103.here hx rfl (pc0 := 11) (pc' := 15) rfl (hb hby d48_11) (by decide) (by decide) ?_
    show own_S p e below T103 m 15 _ [(.int 2)] _
    exact retOut X103 hx Bd.returns rfl (Or.inl ⟨rfl, Or.inl rfl, _, rfl⟩) (hb hby d48_15) hr
  · show Qm48 Z r0 x0 x1 em h0 n0 _ T103.heap _
    rw [e103]
    exact ⟨rfl, N0, rfl⟩
theorem d49_0 : decode k49 0 = .ok (.iload_n 1, 1) := by decide +kernel
theorem d49_1 : decode k49 1 = .ok (.ifCond .ne 8, 3) := by decide +kernel
theorem d49_4 : decode k49 4 = .ok (.aload_n 0, 1) := by decide +kernel
theorem d49_5 : decode k49 5 = .ok (.getfield 13, 3) := by decide +kernel
theorem d49_8 : decode k49 8 = .ok (.areturn, 1) := by decide +kernel
theorem ef_g12_0 (m : MethodId) (r0 : Addr) : entryFrame m #[(.ref r0), (.int 0)] 2 = mkF m 0 #[oR r0, oI 0] [] := by first | (simp [entryFrame, mkF, argsToLocals, Value.category]; done) | rfl
def Q_g12_0 (Z : State) (r0 : Addr) (x0 : Addr) (x1 : Addr) (em : Addr) (h0 : Heap) (n0 : Nat) (v : Option Value) (h : Heap) (L : List Loc) : Prop := v = some (.ref x0) ∧ Fr n0 L ∧ (h = h0)
set_option maxRecDepth 65536 in
set_option maxHeartbeats 40000000 in
theorem rm_g12_0 (l : Launch) (Z : State) (a0 : Array Value) (hw : own_HW Z a0) (ws : List Jvm.Cond) (r0 : Addr) (x0 : Addr) (x1 : Addr) (em : Addr) (h0 : Heap) (n0 : Nat) (Z0 : n0 ≤ h0.size) (F_e0_r0 : Fld Z h0 r0 kL12 "e0" "Ljava/lang/Object;" (.ref x0)) (F_e1_r0 : Fld Z h0 r0 kL12 "e1" "Ljava/lang/Object;" (.ref x1)) (hOld : Old Z n0 h0) (S_EMPTY : Sta Z Z.heap "java/util/ImmutableCollections" "EMPTY" "Ljava/lang/Object;" (.ref em)) (E_em : Exa Z Z.heap em kOB) (ne_x1_em : x1 ≠ em) :
    MetFree l (⟨kL12, "get", "(I)Ljava/lang/Object;"⟩ : MethodName) (head1 (Jvm.Cond.code (⟨kL12, "get", "(I)Ljava/lang/Object;"⟩ : MethodName) jdk_44_method_5_code 2 (some (.object kOB)) :: ws) ({ frames := 0, cells := 0, slots := 0, locals := 0 } : Room)) (fun a U => a = #[(.ref r0), (.int 0)] ∧ Z.Warmed39 U.vm ∧ U.heap = h0) (fun _ _ _ _ _ => True) (fun _ U o U' => ∃ v L, o = .returned v ∧ Q_g12_0 Z r0 x0 x1 em h0 n0 v U'.heap L ∧ FrameEnd U o U' L ({ frames := 0, cells := 0, slots := 0, locals := 0 } : Room).cells ({ frames := 0, cells := 0, slots := 0, locals := 0 } : Room).slots) := by
  refine MetFree.of_bodySF (plainFor_of_name pn10) hisR ?_
  intro p e s m args below meth c s₁ Bd hml0 hP hK
  obtain ⟨rfl, hZ, hh⟩ := hP
  have hx := Bd.exec
  have hby := Bd.bytes
  have hml : c.maxLocals = 2 := hml0
  have hown : s.vm.findClass kL12 = some m.cls := findClass_of_methodNamed Bd.named
  have hnm := (name_of_methodNamed Bd.named Bd.method).1
  have X0 : Stand p l e ({ frames := 0, cells := 0, slots := 0, locals := 0 } : Room) s m #[(.ref r0), (.int 0)] below meth c s₁ [] 0 0 := Stand.of_body Bd
  have e0 : s₁.heap = h0 := by rw [← hh, Bd.state]; rfl
  have N0 := Fr.nil n0
  have pre0 : ∀ t, Steps p.tables e below (s₁.setTop (mkF m 0 #[oR r0, oI 0] [])) t → Steps p.tables e below (s₁.setTop (entryFrame m #[(.ref r0), (.int 0)] 2)) t := fun t k => castTop (ef_g12_0 m r0) k
  obtain ⟨T101, X101, e101, st101⟩ := getF X0 hx hZ hown (host := "") (Or.inl (own_w hw 313 rfl)) Via.refl e0 F_e0_r0 (g := (mkF m 5 #[oR r0, oI 0] [(.ref r0)])) rfl rfl (hb hby d49_5)
  obtain ⟨fs, hr, hrun, hended, hW, hsame⟩ := X101.leave (v := some (.ref x0)) (fun h => by rw [Bd.returns] at h; cases h)
  refine ⟨_, _, pre0 _ ?_, hrun, hended, _, _, rfl, ?_, ⟨_, rfl⟩, hW, hsame.mono (by decide) (by decide)⟩
  · show own_S p e below s₁ m 0 #[oR r0, oI 0] [] _
    refine XS.iloadN X0.here hx rfl (hb hby d49_0) rfl ?_
    refine XS.ifNo X0.here hx rfl (hb hby d49_1) rfl ((if0 _ _).trans (teq (by decide : (0 : Int32) = (0 : Int32))).2) ?_
    refine XS.aloadN X0.here hx rfl (hb hby d49_4) rfl rfl ?_
    show own_S p e below s₁ m 5 _ [(.ref r0)] _
    refine st101 _ ?_
    show own_S p e below T101 m 8 _ [(.ref x0)] _
    exact retOut X101 hx Bd.returns rfl (Or.inr (Or.inr (Or.inr (Or.inr ⟨rfl, rfl, rfl⟩)))) (hb hby d49_8) hr
  · show Q_g12_0 Z r0 x0 x1 em h0 n0 _ T101.heap _
    rw [e101]
    exact ⟨rfl, N0, rfl⟩
theorem d49_9 : decode k49 9 = .ok (.iload_n 1, 1) := by decide +kernel
theorem d49_10 : decode k49 10 = .ok (.iconst 1, 1) := by decide +kernel
theorem d49_11 : decode k49 11 = .ok (.if_icmp .ne 18, 3) := by decide +kernel
theorem d49_14 : decode k49 14 = .ok (.aload_n 0, 1) := by decide +kernel
theorem d49_15 : decode k49 15 = .ok (.getfield 24, 3) := by decide +kernel
theorem d49_18 : decode k49 18 = .ok (.getstatic 19, 3) := by decide +kernel
theorem d49_21 : decode k49 21 = .ok (.if_acmp .eq 8, 3) := by decide +kernel
theorem d49_24 : decode k49 24 = .ok (.aload_n 0, 1) := by decide +kernel
theorem d49_25 : decode k49 25 = .ok (.getfield 24, 3) := by decide +kernel
theorem d49_28 : decode k49 28 = .ok (.areturn, 1) := by decide +kernel
theorem ef_g12_1 (m : MethodId) (r0 : Addr) : entryFrame m #[(.ref r0), (.int 1)] 2 = mkF m 0 #[oR r0, oI 1] [] := by first | (simp [entryFrame, mkF, argsToLocals, Value.category]; done) | rfl
def Q_g12_1 (Z : State) (r0 : Addr) (x0 : Addr) (x1 : Addr) (em : Addr) (h0 : Heap) (n0 : Nat) (v : Option Value) (h : Heap) (L : List Loc) : Prop := v = some (.ref x1) ∧ Fr n0 L ∧ (h = h0)
set_option maxRecDepth 65536 in
set_option maxHeartbeats 40000000 in
theorem rm_g12_1 (l : Launch) (Z : State) (a0 : Array Value) (hw : own_HW Z a0) (ws : List Jvm.Cond) (r0 : Addr) (x0 : Addr) (x1 : Addr) (em : Addr) (h0 : Heap) (n0 : Nat) (Z0 : n0 ≤ h0.size) (F_e0_r0 : Fld Z h0 r0 kL12 "e0" "Ljava/lang/Object;" (.ref x0)) (F_e1_r0 : Fld Z h0 r0 kL12 "e1" "Ljava/lang/Object;" (.ref x1)) (hOld : Old Z n0 h0) (S_EMPTY : Sta Z Z.heap "java/util/ImmutableCollections" "EMPTY" "Ljava/lang/Object;" (.ref em)) (E_em : Exa Z Z.heap em kOB) (ne_x1_em : x1 ≠ em) :
    MetFree l (⟨kL12, "get", "(I)Ljava/lang/Object;"⟩ : MethodName) (head1 (Jvm.Cond.code (⟨kL12, "get", "(I)Ljava/lang/Object;"⟩ : MethodName) jdk_44_method_5_code 2 (some (.object kOB)) :: ws) ({ frames := 0, cells := 0, slots := 0, locals := 0 } : Room)) (fun a U => a = #[(.ref r0), (.int 1)] ∧ Z.Warmed39 U.vm ∧ U.heap = h0) (fun _ _ _ _ _ => True) (fun _ U o U' => ∃ v L, o = .returned v ∧ Q_g12_1 Z r0 x0 x1 em h0 n0 v U'.heap L ∧ FrameEnd U o U' L ({ frames := 0, cells := 0, slots := 0, locals := 0 } : Room).cells ({ frames := 0, cells := 0, slots := 0, locals := 0 } : Room).slots) := by
  refine MetFree.of_bodySF (plainFor_of_name pn10) hisR ?_
  intro p e s m args below meth c s₁ Bd hml0 hP hK
  obtain ⟨rfl, hZ, hh⟩ := hP
  have hx := Bd.exec
  have hby := Bd.bytes
  have hml : c.maxLocals = 2 := hml0
  have hown : s.vm.findClass kL12 = some m.cls := findClass_of_methodNamed Bd.named
  have hnm := (name_of_methodNamed Bd.named Bd.method).1
  have X0 : Stand p l e ({ frames := 0, cells := 0, slots := 0, locals := 0 } : Room) s m #[(.ref r0), (.int 1)] below meth c s₁ [] 0 0 := Stand.of_body Bd
  have e0 : s₁.heap = h0 := by rw [← hh, Bd.state]; rfl
  have N0 := Fr.nil n0
  have pre0 : ∀ t, Steps p.tables e below (s₁.setTop (mkF m 0 #[oR r0, oI 1] [])) t → Steps p.tables e below (s₁.setTop (entryFrame m #[(.ref r0), (.int 1)] 2)) t := fun t k => castTop (ef_g12_1 m r0) k
  obtain ⟨T101, X101, e101, st101⟩ := getF X0 hx hZ hown (host := "") (Or.inl (own_w hw 315 rfl)) Via.refl e0 F_e1_r0 (g := (mkF m 15 #[oR r0, oI 1] [(.ref r0)])) rfl rfl (hb hby d49_15)
  have Fz102 := (S_EMPTY.ext hOld.2)
  obtain ⟨T103, X103, e103, st103⟩ := getS2 X101 hx hZ hown (Or.inr (own_w hw 348 rfl)) Via.refl e101 Fz102 (g := (mkF m 18 #[oR r0, oI 1] [(.ref x1)])) rfl (hb hby d49_18)
  obtain ⟨T104, X104, e104, st104⟩ := getF X103 hx hZ hown (host := "") (Or.inl (own_w hw 315 rfl)) Via.refl e103 F_e1_r0 (g := (mkF m 25 #[oR r0, oI 1] [(.ref r0)])) rfl rfl (hb hby d49_25)
  obtain ⟨fs, hr, hrun, hended, hW, hsame⟩ := X104.leave (v := some (.ref x1)) (fun h => by rw [Bd.returns] at h; cases h)
  refine ⟨_, _, pre0 _ ?_, hrun, hended, _, _, rfl, ?_, ⟨_, rfl⟩, hW, hsame.mono (by decide) (by decide)⟩
  · show own_S p e below s₁ m 0 #[oR r0, oI 1] [] _
    refine XS.iloadN X0.here hx rfl (hb hby d49_0) rfl ?_
    refine XS.ifYes X0.here hx rfl (pc0 := 1) (pc' := 9) rfl (hb hby d49_1) rfl ((if0 _ _).trans (feq (by decide : ¬ ((1 : Int32) = (0 : Int32)))).2) (by decide) (by decide) ?_
    refine XS.iloadN X0.here hx rfl (hb hby d49_9) rfl ?_
    refine XS.iconst X0.here hx rfl (hb hby d49_10) ?_
    show own_S p e below s₁ m 11 _ [(.int 1), (.int 1)] _
    refine XS.icmpNo X0.here hx rfl (hb hby d49_11) rfl (teq (by decide : (1 : Int32) = (1 : Int32))).2 ?_
    refine XS.aloadN X0.here hx rfl (hb hby d49_14) rfl rfl ?_
    show own_S p e below s₁ m 15 _ [(.ref r0)] _
    refine st101 _ ?_
    show own_S p e below T101 m 18 #[oR r0, oI 1] [(.ref x1)] _
    refine st103 _ ?_
    show own_S p e below T103 m 21 _ [(.ref em), (.ref x1)] _
    refine Jvm.RoadKit.acmp (g := (mkF m 21 #[oR r0, oI 1] [(.ref em), (.ref x1)])) X103 hx rfl rfl rfl (pc0 := 21) (pc' := 24) (same := false) rfl (hb hby d49_21) rfl (decide_eq_false fun q => ne_x1_em (Value.ref.inj q)) (by decide) (by decide) ?_
    show own_S p e below T103 m 24 _ [] _
    refine XS.aloadN X103.here hx rfl (hb hby d49_24) rfl rfl ?_
    show own_S p e below T103 m 25 _ [(.ref r0)] _
    refine st104 _ ?_
    show own_S p e below T104 m 28 _ [(.ref x1)] _
    exact retOut X104 hx Bd.returns rfl (Or.inr (Or.inr (Or.inr (Or.inr ⟨rfl, rfl, rfl⟩)))) (hb hby d49_28) hr
  · show Q_g12_1 Z r0 x0 x1 em h0 n0 _ T104.heap _
    rw [e104]
    exact ⟨rfl, N0, rfl⟩
theorem d50_0 : decode k50 0 = .ok (.aload_n 0, 1) := by decide +kernel
theorem d50_1 : decode k50 1 = .ok (.getfield 7, 3) := by decide +kernel
theorem d50_4 : decode k50 4 = .ok (.arraylength, 1) := by decide +kernel
theorem d50_5 : decode k50 5 = .ok (.ireturn, 1) := by decide +kernel
theorem efm50 (m : MethodId) (r0 : Addr) : entryFrame m #[(.ref r0)] 1 = mkF m 0 #[oR r0] [] := by first | (simp [entryFrame, mkF, argsToLocals, Value.category]; done) | rfl
def Qm50 (Z : State) (r0 : Addr) (A : Addr) (x0 : Addr) (x1 : Addr) (x2 : Addr) (kA : ClassId) (wa : Value) (h0 : Heap) (n0 : Nat) (v : Option Value) (h : Heap) (L : List Loc) : Prop := v = some (.int 3) ∧ Fr n0 L ∧ (h = h0)
set_option maxRecDepth 65536 in
set_option maxHeartbeats 40000000 in
theorem rmm50 (l : Launch) (Z : State) (a0 : Array Value) (hw : own_HW Z a0) (ws : List Jvm.Cond) (r0 : Addr) (A : Addr) (x0 : Addr) (x1 : Addr) (x2 : Addr) (kA : ClassId) (wa : Value) (h0 : Heap) (n0 : Nat) (Z0 : n0 ≤ h0.size) (F_elements_r0 : Fld Z h0 r0 kLN "elements" kOA (.ref A)) (F_allowNulls_r0 : Fld Z h0 r0 kLN "allowNulls" "Z" wa) (V_A : Arv Z h0 A kA (.object kOB) (3 : Int32) [(.ref x0), (.ref x1), (.ref x2)] .null) :
    MetFree l (⟨kLN, "size", "()I"⟩ : MethodName) (head1 (Jvm.Cond.code (⟨kLN, "size", "()I"⟩ : MethodName) jdk_45_method_3_code 1 (some .int) :: ws) ({ frames := 0, cells := 0, slots := 0, locals := 0 } : Room)) (fun a U => a = #[(.ref r0)] ∧ Z.Warmed39 U.vm ∧ U.heap = h0) (fun _ _ _ _ _ => True) (fun _ U o U' => ∃ v L, o = .returned v ∧ Qm50 Z r0 A x0 x1 x2 kA wa h0 n0 v U'.heap L ∧ FrameEnd U o U' L ({ frames := 0, cells := 0, slots := 0, locals := 0 } : Room).cells ({ frames := 0, cells := 0, slots := 0, locals := 0 } : Room).slots) := by
  refine MetFree.of_bodySF (plainFor_of_name pn11) hisR ?_
  intro p e s m args below meth c s₁ Bd hml0 hP hK
  obtain ⟨rfl, hZ, hh⟩ := hP
  have hx := Bd.exec
  have hby := Bd.bytes
  have hml : c.maxLocals = 1 := hml0
  have hown : s.vm.findClass kLN = some m.cls := findClass_of_methodNamed Bd.named
  have hnm := (name_of_methodNamed Bd.named Bd.method).1
  have X0 : Stand p l e ({ frames := 0, cells := 0, slots := 0, locals := 0 } : Room) s m #[(.ref r0)] below meth c s₁ [] 0 0 := Stand.of_body Bd
  have e0 : s₁.heap = h0 := by rw [← hh, Bd.state]; rfl
  have N0 := Fr.nil n0
  have pre0 : ∀ t, Steps p.tables e below (s₁.setTop (mkF m 0 #[oR r0] [])) t → Steps p.tables e below (s₁.setTop (entryFrame m #[(.ref r0)] 1)) t := fun t k => castTop (efm50 m r0) k
  obtain ⟨T101, X101, e101, st101⟩ := getF X0 hx hZ hown (host := "") (Or.inl (own_w hw 295 rfl)) Via.refl e0 F_elements_r0 (g := (mkF m 1 #[oR r0] [(.ref r0)])) rfl rfl (hb hby d50_1)
  obtain ⟨cl102, Ar102, qk102, Sz102, Nz102, Hh102, Gg102⟩ := id V_A
  obtain ⟨fs, hr, hrun, hended, hW, hsame⟩ := X101.leave (v := some (.int 3)) (fun h => by rw [Bd.returns] at h; cases h)
  refine ⟨_, _, pre0 _ ?_, hrun, hended, _, _, rfl, ?_, ⟨_, rfl⟩, hW, hsame.mono (by decide) (by decide)⟩
  · show own_S p e below s₁ m 0 #[oR r0] [] _
    refine XS.aloadN X0.here hx rfl (hb hby d50_0) rfl rfl ?_
    show own_S p e below s₁ m 1 _ [(.ref r0)] _
    refine st101 _ ?_
    show own_S p e below T101 m 4 _ [(.ref A)] _
    refine X101.arraylength hx (by rw [e101]; exact Ar102.1) (State.isArrayOf_alike hZ.alike Ar102.2.1) (g := (mkF m 4 #[oR r0] [(.ref A)])) rfl rfl (hb hby d50_4) _ ?_
    rw [len_of Sz102 Nz102]
    show own_S p e below T101 m 5 _ [(.int 3)] _
    exact retOut X101 hx Bd.returns rfl (Or.inl ⟨rfl, Or.inl rfl, _, rfl⟩) (hb hby d50_5) hr
  · show Qm50 Z r0 A x0 x1 x2 kA wa h0 n0 _ T101.heap _
    rw [e101]
    exact ⟨rfl, N0, rfl⟩
theorem d56_0 : decode k56 0 = .ok (.aload_n 0, 1) := by decide +kernel
theorem d56_1 : decode k56 1 = .ok (.getfield 7, 3) := by decide +kernel
theorem d56_4 : decode k56 4 = .ok (.iload_n 1, 1) := by decide +kernel
theorem d56_5 : decode k56 5 = .ok (.aaload, 1) := by decide +kernel
theorem d56_6 : decode k56 6 = .ok (.areturn, 1) := by decide +kernel
theorem ef_gN_0 (m : MethodId) (r0 : Addr) : entryFrame m #[(.ref r0), (.int 0)] 2 = mkF m 0 #[oR r0, oI 0] [] := by first | (simp [entryFrame, mkF, argsToLocals, Value.category]; done) | rfl
def Q_gN_0 (Z : State) (r0 : Addr) (A : Addr) (x0 : Addr) (x1 : Addr) (x2 : Addr) (kA : ClassId) (wa : Value) (h0 : Heap) (n0 : Nat) (v : Option Value) (h : Heap) (L : List Loc) : Prop := v = some (.ref x0) ∧ Fr n0 L ∧ (h = h0)
set_option maxRecDepth 65536 in
set_option maxHeartbeats 40000000 in
theorem rm_gN_0 (l : Launch) (Z : State) (a0 : Array Value) (hw : own_HW Z a0) (ws : List Jvm.Cond) (r0 : Addr) (A : Addr) (x0 : Addr) (x1 : Addr) (x2 : Addr) (kA : ClassId) (wa : Value) (h0 : Heap) (n0 : Nat) (Z0 : n0 ≤ h0.size) (F_elements_r0 : Fld Z h0 r0 kLN "elements" kOA (.ref A)) (F_allowNulls_r0 : Fld Z h0 r0 kLN "allowNulls" "Z" wa) (V_A : Arv Z h0 A kA (.object kOB) (3 : Int32) [(.ref x0), (.ref x1), (.ref x2)] .null) :
    MetFree l (⟨kLN, "get", "(I)Ljava/lang/Object;"⟩ : MethodName) (head1 (Jvm.Cond.code (⟨kLN, "get", "(I)Ljava/lang/Object;"⟩ : MethodName) jdk_45_method_4_code 2 (some (.object kOB)) :: ws) ({ frames := 0, cells := 0, slots := 0, locals := 0 } : Room)) (fun a U => a = #[(.ref r0), (.int 0)] ∧ Z.Warmed39 U.vm ∧ U.heap = h0) (fun _ _ _ _ _ => True) (fun _ U o U' => ∃ v L, o = .returned v ∧ Q_gN_0 Z r0 A x0 x1 x2 kA wa h0 n0 v U'.heap L ∧ FrameEnd U o U' L ({ frames := 0, cells := 0, slots := 0, locals := 0 } : Room).cells ({ frames := 0, cells := 0, slots := 0, locals := 0 } : Room).slots) := by
  refine MetFree.of_bodySF (plainFor_of_name pn11) hisR ?_
  intro p e s m args below meth c s₁ Bd hml0 hP hK
  obtain ⟨rfl, hZ, hh⟩ := hP
  have hx := Bd.exec
  have hby := Bd.bytes
  have hml : c.maxLocals = 2 := hml0
  have hown : s.vm.findClass kLN = some m.cls := findClass_of_methodNamed Bd.named
  have hnm := (name_of_methodNamed Bd.named Bd.method).1
  have X0 : Stand p l e ({ frames := 0, cells := 0, slots := 0, locals := 0 } : Room) s m #[(.ref r0), (.int 0)] below meth c s₁ [] 0 0 := Stand.of_body Bd
  have e0 : s₁.heap = h0 := by rw [← hh, Bd.state]; rfl
  have N0 := Fr.nil n0
  have pre0 : ∀ t, Steps p.tables e below (s₁.setTop (mkF m 0 #[oR r0, oI 0] [])) t → Steps p.tables e below (s₁.setTop (entryFrame m #[(.ref r0), (.int 0)] 2)) t := fun t k => castTop (ef_gN_0 m r0) k
  obtain ⟨T101, X101, e101, st101⟩ := getF X0 hx hZ hown (host := "") (Or.inl (own_w hw 295 rfl)) Via.refl e0 F_elements_r0 (g := (mkF m 1 #[oR r0, oI 0] [(.ref r0)])) rfl rfl (hb hby d56_1)
  obtain ⟨cl102, Ar102, qk102, Sz102, Nz102, Hh102, Gg102⟩ := id V_A
  have hin103 : ¬ ((0 : Int32) < 0 ∨ cl102.slots.size ≤ ((0 : Int32)).toNatClampNeg) := inb_of Sz102 ⟨by decide, by decide⟩
  have hat103 : cl102.slots[((0 : Int32)).toNatClampNeg]? = some (.ref x0) := Has.at Hh102 hin103 rfl
  obtain ⟨fs, hr, hrun, hended, hW, hsame⟩ := X101.leave (v := some (.ref x0)) (fun h => by rw [Bd.returns] at h; cases h)
  refine ⟨_, _, pre0 _ ?_, hrun, hended, _, _, rfl, ?_, ⟨_, rfl⟩, hW, hsame.mono (by decide) (by decide)⟩
  · show own_S p e below s₁ m 0 #[oR r0, oI 0] [] _
    refine XS.aloadN X0.here hx rfl (hb hby d56_0) rfl rfl ?_
    show own_S p e below s₁ m 1 _ [(.ref r0)] _
    refine st101 _ ?_
    show own_S p e below T101 m 4 _ [(.ref A)] _
    refine XS.iloadN X101.here hx rfl (hb hby d56_4) rfl ?_
    show own_S p e below T101 m 5 _ [(.int 0), (.ref A)] _
    refine X101.aaload hx (j := (0 : Int32)) (v := (.ref x0)) (by rw [e101]; exact Ar102.1) (State.isArrayOf_alike hZ.alike Ar102.2.1) rfl Ar102.2.2 hin103 hat103 (g := (mkF m 5 #[oR r0, oI 0] [(.int 0), (.ref A)])) rfl rfl (hb hby d56_5) _ ?_
    show own_S p e below T101 m 6 _ [(.ref x0)] _
    exact retOut X101 hx Bd.returns rfl (Or.inr (Or.inr (Or.inr (Or.inr ⟨rfl, rfl, rfl⟩)))) (hb hby d56_6) hr
  · show Q_gN_0 Z r0 A x0 x1 x2 kA wa h0 n0 _ T101.heap _
    rw [e101]
    exact ⟨rfl, N0, rfl⟩
theorem ef_gN_1 (m : MethodId) (r0 : Addr) : entryFrame m #[(.ref r0), (.int 1)] 2 = mkF m 0 #[oR r0, oI 1] [] := by first | (simp [entryFrame, mkF, argsToLocals, Value.category]; done) | rfl
def Q_gN_1 (Z : State) (r0 : Addr) (A : Addr) (x0 : Addr) (x1 : Addr) (x2 : Addr) (kA : ClassId) (wa : Value) (h0 : Heap) (n0 : Nat) (v : Option Value) (h : Heap) (L : List Loc) : Prop := v = some (.ref x1) ∧ Fr n0 L ∧ (h = h0)
set_option maxRecDepth 65536 in
set_option maxHeartbeats 40000000 in
theorem rm_gN_1 (l : Launch) (Z : State) (a0 : Array Value) (hw : own_HW Z a0) (ws : List Jvm.Cond) (r0 : Addr) (A : Addr) (x0 : Addr) (x1 : Addr) (x2 : Addr) (kA : ClassId) (wa : Value) (h0 : Heap) (n0 : Nat) (Z0 : n0 ≤ h0.size) (F_elements_r0 : Fld Z h0 r0 kLN "elements" kOA (.ref A)) (F_allowNulls_r0 : Fld Z h0 r0 kLN "allowNulls" "Z" wa) (V_A : Arv Z h0 A kA (.object kOB) (3 : Int32) [(.ref x0), (.ref x1), (.ref x2)] .null) :
    MetFree l (⟨kLN, "get", "(I)Ljava/lang/Object;"⟩ : MethodName) (head1 (Jvm.Cond.code (⟨kLN, "get", "(I)Ljava/lang/Object;"⟩ : MethodName) jdk_45_method_4_code 2 (some (.object kOB)) :: ws) ({ frames := 0, cells := 0, slots := 0, locals := 0 } : Room)) (fun a U => a = #[(.ref r0), (.int 1)] ∧ Z.Warmed39 U.vm ∧ U.heap = h0) (fun _ _ _ _ _ => True) (fun _ U o U' => ∃ v L, o = .returned v ∧ Q_gN_1 Z r0 A x0 x1 x2 kA wa h0 n0 v U'.heap L ∧ FrameEnd U o U' L ({ frames := 0, cells := 0, slots := 0, locals := 0 } : Room).cells ({ frames := 0, cells := 0, slots := 0, locals := 0 } : Room).slots) := by
  refine MetFree.of_bodySF (plainFor_of_name pn11) hisR ?_
  intro p e s m args below meth c s₁ Bd hml0 hP hK
  obtain ⟨rfl, hZ, hh⟩ := hP
  have hx := Bd.exec
  have hby := Bd.bytes
  have hml : c.maxLocals = 2 := hml0
  have hown : s.vm.findClass kLN = some m.cls := findClass_of_methodNamed Bd.named
  have hnm := (name_of_methodNamed Bd.named Bd.method).1
  have X0 : Stand p l e ({ frames := 0, cells := 0, slots := 0, locals := 0 } : Room) s m #[(.ref r0), (.int 1)] below meth c s₁ [] 0 0 := Stand.of_body Bd
  have e0 : s₁.heap = h0 := by rw [← hh, Bd.state]; rfl
  have N0 := Fr.nil n0
  have pre0 : ∀ t, Steps p.tables e below (s₁.setTop (mkF m 0 #[oR r0, oI 1] [])) t → Steps p.tables e below (s₁.setTop (entryFrame m #[(.ref r0), (.int 1)] 2)) t := fun t k => castTop (ef_gN_1 m r0) k
  obtain ⟨T101, X101, e101, st101⟩ := getF X0 hx hZ hown (host := "") (Or.inl (own_w hw 295 rfl)) Via.refl e0 F_elements_r0 (g := (mkF m 1 #[oR r0, oI 1] [(.ref r0)])) rfl rfl (hb hby d56_1)
  obtain ⟨cl102, Ar102, qk102, Sz102, Nz102, Hh102, Gg102⟩ := id V_A
  have hin103 : ¬ ((1 : Int32) < 0 ∨ cl102.slots.size ≤ ((1 : Int32)).toNatClampNeg) := inb_of Sz102 ⟨by decide, by decide⟩
  have hat103 : cl102.slots[((1 : Int32)).toNatClampNeg]? = some (.ref x1) := Has.at Hh102 hin103 rfl
  obtain ⟨fs, hr, hrun, hended, hW, hsame⟩ := X101.leave (v := some (.ref x1)) (fun h => by rw [Bd.returns] at h; cases h)
  refine ⟨_, _, pre0 _ ?_, hrun, hended, _, _, rfl, ?_, ⟨_, rfl⟩, hW, hsame.mono (by decide) (by decide)⟩
  · show own_S p e below s₁ m 0 #[oR r0, oI 1] [] _
    refine XS.aloadN X0.here hx rfl (hb hby d56_0) rfl rfl ?_
    show own_S p e below s₁ m 1 _ [(.ref r0)] _
    refine st101 _ ?_
    show own_S p e below T101 m 4 _ [(.ref A)] _
    refine XS.iloadN X101.here hx rfl (hb hby d56_4) rfl ?_
    show own_S p e below T101 m 5 _ [(.int 1), (.ref A)] _
    refine X101.aaload hx (j := (1 : Int32)) (v := (.ref x1)) (by rw [e101]; exact Ar102.1) (State.isArrayOf_alike hZ.alike Ar102.2.1) rfl Ar102.2.2 hin103 hat103 (g := (mkF m 5 #[oR r0, oI 1] [(.int 1), (.ref A)])) rfl rfl (hb hby d56_5) _ ?_
    show own_S p e below T101 m 6 _ [(.ref x1)] _
    exact retOut X101 hx Bd.returns rfl (Or.inr (Or.inr (Or.inr (Or.inr ⟨rfl, rfl, rfl⟩)))) (hb hby d56_6) hr
  · show Q_gN_1 Z r0 A x0 x1 x2 kA wa h0 n0 _ T101.heap _
    rw [e101]
    exact ⟨rfl, N0, rfl⟩
theorem ef_gN_2 (m : MethodId) (r0 : Addr) : entryFrame m #[(.ref r0), (.int 2)] 2 = mkF m 0 #[oR r0, oI 2] [] := by first | (simp [entryFrame, mkF, argsToLocals, Value.category]; done) | rfl
def Q_gN_2 (Z : State) (r0 : Addr) (A : Addr) (x0 : Addr) (x1 : Addr) (x2 : Addr) (kA : ClassId) (wa : Value) (h0 : Heap) (n0 : Nat) (v : Option Value) (h : Heap) (L : List Loc) : Prop := v = some (.ref x2) ∧ Fr n0 L ∧ (h = h0)
set_option maxRecDepth 65536 in
set_option maxHeartbeats 40000000 in
theorem rm_gN_2 (l : Launch) (Z : State) (a0 : Array Value) (hw : own_HW Z a0) (ws : List Jvm.Cond) (r0 : Addr) (A : Addr) (x0 : Addr) (x1 : Addr) (x2 : Addr) (kA : ClassId) (wa : Value) (h0 : Heap) (n0 : Nat) (Z0 : n0 ≤ h0.size) (F_elements_r0 : Fld Z h0 r0 kLN "elements" kOA (.ref A)) (F_allowNulls_r0 : Fld Z h0 r0 kLN "allowNulls" "Z" wa) (V_A : Arv Z h0 A kA (.object kOB) (3 : Int32) [(.ref x0), (.ref x1), (.ref x2)] .null) :
    MetFree l (⟨kLN, "get", "(I)Ljava/lang/Object;"⟩ : MethodName) (head1 (Jvm.Cond.code (⟨kLN, "get", "(I)Ljava/lang/Object;"⟩ : MethodName) jdk_45_method_4_code 2 (some (.object kOB)) :: ws) ({ frames := 0, cells := 0, slots := 0, locals := 0 } : Room)) (fun a U => a = #[(.ref r0), (.int 2)] ∧ Z.Warmed39 U.vm ∧ U.heap = h0) (fun _ _ _ _ _ => True) (fun _ U o U' => ∃ v L, o = .returned v ∧ Q_gN_2 Z r0 A x0 x1 x2 kA wa h0 n0 v U'.heap L ∧ FrameEnd U o U' L ({ frames := 0, cells := 0, slots := 0, locals := 0 } : Room).cells ({ frames := 0, cells := 0, slots := 0, locals := 0 } : Room).slots) := by
  refine MetFree.of_bodySF (plainFor_of_name pn11) hisR ?_
  intro p e s m args below meth c s₁ Bd hml0 hP hK
  obtain ⟨rfl, hZ, hh⟩ := hP
  have hx := Bd.exec
  have hby := Bd.bytes
  have hml : c.maxLocals = 2 := hml0
  have hown : s.vm.findClass kLN = some m.cls := findClass_of_methodNamed Bd.named
  have hnm := (name_of_methodNamed Bd.named Bd.method).1
  have X0 : Stand p l e ({ frames := 0, cells := 0, slots := 0, locals := 0 } : Room) s m #[(.ref r0), (.int 2)] below meth c s₁ [] 0 0 := Stand.of_body Bd
  have e0 : s₁.heap = h0 := by rw [← hh, Bd.state]; rfl
  have N0 := Fr.nil n0
  have pre0 : ∀ t, Steps p.tables e below (s₁.setTop (mkF m 0 #[oR r0, oI 2] [])) t → Steps p.tables e below (s₁.setTop (entryFrame m #[(.ref r0), (.int 2)] 2)) t := fun t k => castTop (ef_gN_2 m r0) k
  obtain ⟨T101, X101, e101, st101⟩ := getF X0 hx hZ hown (host := "") (Or.inl (own_w hw 295 rfl)) Via.refl e0 F_elements_r0 (g := (mkF m 1 #[oR r0, oI 2] [(.ref r0)])) rfl rfl (hb hby d56_1)
  obtain ⟨cl102, Ar102, qk102, Sz102, Nz102, Hh102, Gg102⟩ := id V_A
  have hin103 : ¬ ((2 : Int32) < 0 ∨ cl102.slots.size ≤ ((2 : Int32)).toNatClampNeg) := inb_of Sz102 ⟨by decide, by decide⟩
  have hat103 : cl102.slots[((2 : Int32)).toNatClampNeg]? = some (.ref x2) := Has.at Hh102 hin103 rfl
  obtain ⟨fs, hr, hrun, hended, hW, hsame⟩ := X101.leave (v := some (.ref x2)) (fun h => by rw [Bd.returns] at h; cases h)
  refine ⟨_, _, pre0 _ ?_, hrun, hended, _, _, rfl, ?_, ⟨_, rfl⟩, hW, hsame.mono (by decide) (by decide)⟩
  · show own_S p e below s₁ m 0 #[oR r0, oI 2] [] _
    refine XS.aloadN X0.here hx rfl (hb hby d56_0) rfl rfl ?_
    show own_S p e below s₁ m 1 _ [(.ref r0)] _
    refine st101 _ ?_
    show own_S p e below T101 m 4 _ [(.ref A)] _
    refine XS.iloadN X101.here hx rfl (hb hby d56_4) rfl ?_
    show own_S p e below T101 m 5 _ [(.int 2), (.ref A)] _
    refine X101.aaload hx (j := (2 : Int32)) (v := (.ref x2)) (by rw [e101]; exact Ar102.1) (State.isArrayOf_alike hZ.alike Ar102.2.1) rfl Ar102.2.2 hin103 hat103 (g := (mkF m 5 #[oR r0, oI 2] [(.int 2), (.ref A)])) rfl rfl (hb hby d56_5) _ ?_
    show own_S p e below T101 m 6 _ [(.ref x2)] _
    exact retOut X101 hx Bd.returns rfl (Or.inr (Or.inr (Or.inr (Or.inr ⟨rfl, rfl, rfl⟩)))) (hb hby d56_6) hr
  · show Q_gN_2 Z r0 A x0 x1 x2 kA wa h0 n0 _ T101.heap _
    rw [e101]
    exact ⟨rfl, N0, rfl⟩
theorem sn12 {Z : State} {a0 : Array Value} (hw : own_HW Z a0) : Jvm.RoadKit.slotOf Z kLIT "size" "I" ≠ Jvm.RoadKit.slotOf Z kLIT "list" "Ljava/util/List;" := slot_ne (Or.inr (own_w hw 396 rfl)) (Or.inr (own_w hw 394 rfl)) (by decide) (t := .int) (t' := (.object "java/util/List")) (by decide) (by decide)
theorem sn13 {Z : State} {a0 : Array Value} (hw : own_HW Z a0) : Jvm.RoadKit.slotOf Z kLIT "cursor" "I" ≠ Jvm.RoadKit.slotOf Z kLIT "list" "Ljava/util/List;" := slot_ne (Or.inl (own_w hw 398 rfl)) (Or.inr (own_w hw 394 rfl)) (by decide) (t := .int) (t' := (.object "java/util/List")) (by decide) (by decide)
theorem sn14 {Z : State} {a0 : Array Value} (hw : own_HW Z a0) : Jvm.RoadKit.slotOf Z kLIT "cursor" "I" ≠ Jvm.RoadKit.slotOf Z kLIT "size" "I" := slot_ne (Or.inl (own_w hw 398 rfl)) (Or.inr (own_w hw 396 rfl)) (by decide) (t := .int) (t' := .int) (by decide) (by decide)
theorem sn15 {Z : State} {a0 : Array Value} (hw : own_HW Z a0) : Jvm.RoadKit.slotOf Z kLIT "isListIterator" "Z" ≠ Jvm.RoadKit.slotOf Z kLIT "list" "Ljava/util/List;" := slot_ne (Or.inr (own_w hw 400 rfl)) (Or.inr (own_w hw 394 rfl)) (by decide) (t := .boolean) (t' := (.object "java/util/List")) (by decide) (by decide)
theorem sn16 {Z : State} {a0 : Array Value} (hw : own_HW Z a0) : Jvm.RoadKit.slotOf Z kLIT "isListIterator" "Z" ≠ Jvm.RoadKit.slotOf Z kLIT "size" "I" := slot_ne (Or.inr (own_w hw 400 rfl)) (Or.inr (own_w hw 396 rfl)) (by decide) (t := .boolean) (t' := .int) (by decide) (by decide)
theorem sn17 {Z : State} {a0 : Array Value} (hw : own_HW Z a0) : Jvm.RoadKit.slotOf Z kLIT "isListIterator" "Z" ≠ Jvm.RoadKit.slotOf Z kLIT "cursor" "I" := slot_ne (Or.inr (own_w hw 400 rfl)) (Or.inl (own_w hw 398 rfl)) (by decide) (t := .boolean) (t' := .int) (by decide) (by decide)
theorem d53_0 : decode k53 0 = .ok (.aload_n 0, 1) := by decide +kernel
theorem d53_1 : decode k53 1 = .ok (.invokespecial 1, 3) := by decide +kernel
theorem d53_4 : decode k53 4 = .ok (.aload_n 0, 1) := by decide +kernel
theorem d53_5 : decode k53 5 = .ok (.aload_n 1, 1) := by decide +kernel
theorem d53_6 : decode k53 6 = .ok (.putfield 7, 3) := by decide +kernel
theorem d53_9 : decode k53 9 = .ok (.aload_n 0, 1) := by decide +kernel
theorem d53_10 : decode k53 10 = .ok (.iload_n 2, 1) := by decide +kernel
theorem d53_11 : decode k53 11 = .ok (.putfield 13, 3) := by decide +kernel
theorem d53_14 : decode k53 14 = .ok (.aload_n 0, 1) := by decide +kernel
theorem d53_15 : decode k53 15 = .ok (.iconst 0, 1) := by decide +kernel
theorem d53_16 : decode k53 16 = .ok (.putfield 17, 3) := by decide +kernel
theorem d53_19 : decode k53 19 = .ok (.aload_n 0, 1) := by decide +kernel
theorem d53_20 : decode k53 20 = .ok (.iconst 0, 1) := by decide +kernel
theorem d53_21 : decode k53 21 = .ok (.putfield 20, 3) := by decide +kernel
theorem d53_24 : decode k53 24 = .ok (.return_, 1) := by decide +kernel
theorem pn17 : plainName kLIT = true := by first | (simp [plainName, overriddenIn]; done) | decide +kernel
theorem efm53 (m : MethodId) (r0 : Addr) (r1 : Addr) (n : Int32) : entryFrame m #[(.ref r0), (.ref r1), (.int n)] 3 = mkF m 0 #[oR r0, oR r1, oI n] [] := by first | (simp [entryFrame, mkF, argsToLocals, Value.category]; done) | rfl
def Qm53 (Z : State) (r0 : Addr) (r1 : Addr) (n : Int32) (w1 : Value) (w2 : Value) (w3 : Value) (w4 : Value) (h0 : Heap) (n0 : Nat) (v : Option Value) (h : Heap) (L : List Loc) : Prop := v = none ∧ Fr n0 L ∧ (Keep h0 h [r0]) ∧ (Fld Z h r0 kLIT "list" "Ljava/util/List;" (.ref r1)) ∧ (Fld Z h r0 kLIT "size" "I" (.int n)) ∧ (Fld Z h r0 kLIT "cursor" "I" (.int 0)) ∧ (Fld Z h r0 kLIT "isListIterator" "Z" (.int 0))
set_option maxRecDepth 65536 in
set_option maxHeartbeats 40000000 in
theorem rmm53 (l : Launch) (Z : State) (a0 : Array Value) (hw : own_HW Z a0) (ws : List Jvm.Cond) (r0 : Addr) (r1 : Addr) (n : Int32) (w1 : Value) (w2 : Value) (w3 : Value) (w4 : Value) (h0 : Heap) (n0 : Nat) (Z0 : n0 ≤ h0.size) (E_r0 : Exa Z h0 r0 kLIT) (g_r0 : n0 ≤ r0) (F_list_r0 : Fld Z h0 r0 kLIT "list" "Ljava/util/List;" w1) (F_size_r0 : Fld Z h0 r0 kLIT "size" "I" w2) (F_cursor_r0 : Fld Z h0 r0 kLIT "cursor" "I" w3) (F_isListIterator_r0 : Fld Z h0 r0 kLIT "isListIterator" "Z" w4) :
    MetFree l (⟨kLIT, "<init>", "(Ljava/util/List;I)V"⟩ : MethodName) (head1 (Jvm.Cond.code (⟨kLIT, "<init>", "(Ljava/util/List;I)V"⟩ : MethodName) jdk_53_method_1_code 3 none :: ws) ({ frames := 1, cells := 0, slots := 0, locals := 12 } : Room)) (fun a U => a = #[(.ref r0), (.ref r1), (.int n)] ∧ Z.Warmed39 U.vm ∧ U.heap = h0) (fun _ _ _ _ _ => True) (fun _ U o U' => ∃ v L, o = .returned v ∧ Qm53 Z r0 r1 n w1 w2 w3 w4 h0 n0 v U'.heap L ∧ FrameEnd U o U' L ({ frames := 1, cells := 0, slots := 0, locals := 12 } : Room).cells ({ frames := 1, cells := 0, slots := 0, locals := 12 } : Room).slots) := by
  refine MetFree.of_bodySF (plainFor_of_name pn17) hisR ?_
  intro p e s m args below meth c s₁ Bd hml0 hP hK
  obtain ⟨rfl, hZ, hh⟩ := hP
  have hx := Bd.exec
  have hby := Bd.bytes
  have hml : c.maxLocals = 3 := hml0
  have hown : s.vm.findClass kLIT = some m.cls := findClass_of_methodNamed Bd.named
  have hnm := (name_of_methodNamed Bd.named Bd.method).1
  have X0 : Stand p l e ({ frames := 1, cells := 0, slots := 0, locals := 12 } : Room) s m #[(.ref r0), (.ref r1), (.int n)] below meth c s₁ [] 0 0 := Stand.of_body Bd
  have e0 : s₁.heap = h0 := by rw [← hh, Bd.state]; rfl
  have N0 := Fr.nil n0
  have pre0 : ∀ t, Steps p.tables e below (s₁.setTop (mkF m 0 #[oR r0, oR r1, oI n] [])) t → Steps p.tables e below (s₁.setTop (entryFrame m #[(.ref r0), (.ref r1), (.int n)] 3)) t := fun t k => castTop (efm53 m r0 r1 n) k
  obtain ⟨T101, X101, e101, st101⟩ := initO X0 hx hZ hown (own_w hw 392 rfl) (own_w hw 19 rfl) (own_w hw 20 rfl) e0 (g := (mkF m 1 #[oR r0, oR r1, oI n] [(.ref r0)])) rfl (by rw [hml]; rfl) rfl (hb hby d53_1) (by decide) (W := 0) (by show 2 * 0 + _ ≤ _; exact Nat.le_of_eq rfl) (by decide)
  obtain ⟨T102, h102, X102, e102, W102, st102⟩ := putF X101 hx hZ hown (host := "") (Or.inl (own_w hw 393 rfl)) Via.refl e101 F_list_r0 E_r0 (Or.inr ⟨(own_w hw 394 rfl), rfl, hnm⟩) (own_w hw 382 rfl) (ty := (.object "java/util/List")) (by decide) rfl rfl (g := (mkF m 6 #[oR r0, oR r1, oI n] [(.ref r1), (.ref r0)])) rfl rfl (hb hby d53_6)
  have Fw102 := F_list_r0.same W102
  have N102 := Fr.snoc X102 N0 g_r0
  have ZZ103 : n0 ≤ h102.size := Nat.le_trans Z0 (Nat.le_of_eq W102.size.symm)
  have KK104 : Keep h0 h102 [r0] := (Keep.refl h0 [r0]).wr W102 (Or.inl (List.mem_of_getElem? (i := 0) rfl))
  have Fc105 := (F_size_r0.other W102 (Or.inr (sn12 hw)))
  obtain ⟨T106, h106, X106, e106, W106, st106⟩ := putF X102 hx hZ hown (host := "") (Or.inl (own_w hw 395 rfl)) Via.refl e102 Fc105 (E_r0.wr W102) (Or.inr ⟨(own_w hw 396 rfl), rfl, hnm⟩) (own_w hw 382 rfl) (ty := .int) (by decide) rfl rfl (g := (mkF m 11 #[oR r0, oR r1, oI n] [(.int n), (.ref r0)])) rfl rfl (hb hby d53_11)
  have Fw106 := Fc105.same W106
  have N106 := Fr.snoc X106 N102 g_r0
  have ZZ107 : n0 ≤ h106.size := Nat.le_trans ZZ103 (Nat.le_of_eq W106.size.symm)
  have KK108 : Keep h0 h106 [r0] := KK104.wr W106 (Or.inl (List.mem_of_getElem? (i := 0) rfl))
  have Fc109 := ((F_cursor_r0.other W102 (Or.inr (sn13 hw))).other W106 (Or.inr (sn14 hw)))
  obtain ⟨T110, h110, X110, e110, W110, st110⟩ := putF X106 hx hZ hown (host := "") (Or.inl (own_w hw 397 rfl)) Via.refl e106 Fc109 ((E_r0.wr W102).wr W106) (Or.inl (own_w hw 398 rfl)) (own_w hw 382 rfl) (ty := .int) (by decide) rfl rfl (g := (mkF m 16 #[oR r0, oR r1, oI n] [(.int 0), (.ref r0)])) rfl rfl (hb hby d53_16)
  have Fw110 := Fc109.same W110
  have N110 := Fr.snoc X110 N106 g_r0
  have ZZ111 : n0 ≤ h110.size := Nat.le_trans ZZ107 (Nat.le_of_eq W110.size.symm)
  have KK112 : Keep h0 h110 [r0] := KK108.wr W110 (Or.inl (List.mem_of_getElem? (i := 0) rfl))
  have Fc113 := (((F_isListIterator_r0.other W102 (Or.inr (sn15 hw))).other W106 (Or.inr (sn16 hw))).other W110 (Or.inr (sn17 hw)))
  have Fc114 := (((E_r0.wr W102).wr W106).wr W110)
  obtain ⟨T115, h115, X115, e115, W115, st115⟩ := putFN X110 hx hZ hown (own_w hw 399 rfl) Via.refl e110 Fc113 Fc114 (Or.inr ⟨(own_w hw 400 rfl), rfl, hnm⟩) (own_w hw 382 rfl) (ty := .boolean) (v' := (.int 0)) (by decide) rfl (by decide) (g := (mkF m 21 #[oR r0, oR r1, oI n] [(.int 0), (.ref r0)])) rfl rfl (hb hby d53_21)
  have Fw115 := Fc113.same W115
  have N115 := Fr.snoc X115 N110 g_r0
  have ZZ116 : n0 ≤ h115.size := Nat.le_trans ZZ111 (Nat.le_of_eq W115.size.symm)
  have KK117 : Keep h0 h115 [r0] := KK112.wr W115 (Or.inl (List.mem_of_getElem? (i := 0) rfl))
  obtain ⟨fs, hr, hrun, hended, hW, hsame⟩ := X115.leave (v := none) (fun _ => rfl)
  refine ⟨_, _, pre0 _ ?_, hrun, hended, _, _, rfl, ?_, ⟨_, rfl⟩, hW, hsame.mono (by decide) (by decide)⟩
  · show own_S p e below s₁ m 0 #[oR r0, oR r1, oI n] [] _
    refine XS.aloadN X0.here hx rfl (hb hby d53_0) rfl rfl ?_
    show own_S p e below s₁ m 1 _ [(.ref r0)] _
    refine st101 _ ?_
    show own_S p e below T101 m 4 _ [] _
    refine XS.aloadN X101.here hx rfl (hb hby d53_4) rfl rfl ?_
    refine XS.aloadN X101.here hx rfl (hb hby d53_5) rfl rfl ?_
    show own_S p e below T101 m 6 _ [(.ref r1), (.ref r0)] _
    refine st102 _ ?_
    show own_S p e below T102 m 9 _ [] _
    refine XS.aloadN X102.here hx rfl (hb hby d53_9) rfl rfl ?_
    refine XS.iloadN X102.here hx rfl (hb hby d53_10) rfl ?_
    show own_S p e below T102 m 11 #[oR r0, oR r1, oI n] [(.int n), (.ref r0)] _
    refine st106 _ ?_
    show own_S p e below T106 m 14 _ [] _
    refine XS.aloadN X106.here hx rfl (hb hby d53_14) rfl rfl ?_
    refine XS.iconst X106.here hx rfl (hb hby d53_15) ?_
    show own_S p e below T106 m 16 _ [(.int 0), (.ref r0)] _
    refine st110 _ ?_
    show own_S p e below T110 m 19 _ [] _
    refine XS.aloadN X110.here hx rfl (hb hby d53_19) rfl rfl ?_
    refine XS.iconst X110.here hx rfl (hb hby d53_20) ?_
    show own_S p e below T110 m 21 _ [(.int 0), (.ref r0)] _
    refine st115 _ ?_
    show own_S p e below T115 m 24 #[oR r0, oR r1, oI n] [] _
    exact X115.returnOut hx Bd.returns (hb hby d53_24) hr
  · show Qm53 Z r0 r1 n w1 w2 w3 w4 h0 n0 _ T115.heap _
    rw [e115]
    exact ⟨rfl, N115, KK117, (((Fw102.other W106 (Or.inr (Ne.symm (sn12 hw)))).other W110 (Or.inr (Ne.symm (sn13 hw)))).other W115 (Or.inr (Ne.symm (sn15 hw)))), ((Fw106.other W110 (Or.inr (Ne.symm (sn14 hw)))).other W115 (Or.inr (Ne.symm (sn16 hw)))), (Fw110.other W115 (Or.inr (Ne.symm (sn17 hw)))), Fw115⟩
theorem pd26 : parseMethodDescriptor "(Ljava/util/List;I)V" = some ⟨[(.object "java/util/List"), .int], none⟩ := by decide +kernel
theorem d52_0 : decode k52 0 = .ok (.new 61, 3) := by decide +kernel
theorem d52_3 : decode k52 3 = .ok (.dup, 1) := by decide +kernel
theorem d52_4 : decode k52 4 = .ok (.aload_n 0, 1) := by decide +kernel
theorem d52_5 : decode k52 5 = .ok (.aload_n 0, 1) := by decide +kernel
theorem d52_6 : decode k52 6 = .ok (.invokevirtual 13, 3) := by decide +kernel
theorem d52_9 : decode k52 9 = .ok (.invokespecial 63, 3) := by decide +kernel
theorem d52_12 : decode k52 12 = .ok (.areturn, 1) := by decide +kernel
theorem ef_it2 (m : MethodId) (r0 : Addr) : entryFrame m #[(.ref r0)] 1 = mkF m 0 #[oR r0] [] := by first | (simp [entryFrame, mkF, argsToLocals, Value.category]; done) | rfl
def Q_it2 (Z : State) (r0 : Addr) (x0 : Addr) (x1 : Addr) (em : Addr) (h0 : Heap) (n0 : Nat) (v : Option Value) (h : Heap) (L : List Loc) : Prop := ∃ it : Addr, v = some (.ref it) ∧ Fr n0 L ∧ (Keep h0 h []) ∧ (h0.size ≤ it) ∧ (Exa Z h it kLIT) ∧ (Fld Z h it kLIT "list" "Ljava/util/List;" (.ref r0)) ∧ (Fld Z h it kLIT "size" "I" (.int 2)) ∧ (Fld Z h it kLIT "cursor" "I" (.int 0)) ∧ (Fld Z h it kLIT "isListIterator" "Z" (.int 0))
set_option maxRecDepth 65536 in
set_option maxHeartbeats 40000000 in
theorem rm_it2 (l : Launch) (Z : State) (a0 : Array Value) (hw : own_HW Z a0) (ws : List Jvm.Cond) (r0 : Addr) (x0 : Addr) (x1 : Addr) (em : Addr) (h0 : Heap) (n0 : Nat) (Z0 : n0 ≤ h0.size) (E_r0 : Exa Z h0 r0 kL12) (F_e0_r0 : Fld Z h0 r0 kL12 "e0" "Ljava/lang/Object;" (.ref x0)) (F_e1_r0 : Fld Z h0 r0 kL12 "e1" "Ljava/lang/Object;" (.ref x1)) (hOld : Old Z n0 h0) (S_EMPTY : Sta Z Z.heap "java/util/ImmutableCollections" "EMPTY" "Ljava/lang/Object;" (.ref em)) (E_em : Exa Z Z.heap em kOB) (ne_x1_em : x1 ≠ em) :
    MetFree l (⟨"java/util/ImmutableCollections$AbstractImmutableList", "iterator", "()Ljava/util/Iterator;"⟩ : MethodName) (head1 (Jvm.Cond.code (⟨"java/util/ImmutableCollections$AbstractImmutableList", "iterator", "()Ljava/util/Iterator;"⟩ : MethodName) jdk_46_method_10_code 1 (some (.object "java/util/Iterator")) :: ws) ({ frames := 2, cells := 1, slots := 4, locals := 27 } : Room)) (fun a U => a = #[(.ref r0)] ∧ Z.Warmed39 U.vm ∧ U.heap = h0) (fun _ _ _ _ _ => True) (fun _ U o U' => ∃ v L, o = .returned v ∧ Q_it2 Z r0 x0 x1 em h0 n0 v U'.heap L ∧ FrameEnd U o U' L ({ frames := 2, cells := 1, slots := 4, locals := 27 } : Room).cells ({ frames := 2, cells := 1, slots := 4, locals := 27 } : Room).slots) := by
  refine MetFree.of_bodySF (plainFor_of_name pn9) hisR ?_
  intro p e s m args below meth c s₁ Bd hml0 hP hK
  obtain ⟨rfl, hZ, hh⟩ := hP
  have hx := Bd.exec
  have hby := Bd.bytes
  have hml : c.maxLocals = 1 := hml0
  have hown : s.vm.findClass "java/util/ImmutableCollections$AbstractImmutableList" = some m.cls := findClass_of_methodNamed Bd.named
  have hnm := (name_of_methodNamed Bd.named Bd.method).1
  have X0 : Stand p l e ({ frames := 2, cells := 1, slots := 4, locals := 27 } : Room) s m #[(.ref r0)] below meth c s₁ [] 0 0 := Stand.of_body Bd
  have e0 : s₁.heap = h0 := by rw [← hh, Bd.state]; rfl
  have N0 := Fr.nil n0
  have pre0 : ∀ t, Steps p.tables e below (s₁.setTop (mkF m 0 #[oR r0] [])) t → Steps p.tables e below (s₁.setTop (entryFrame m #[(.ref r0)] 1)) t := fun t k => castTop (ef_it2 m r0) k
  obtain ⟨T101, h101, X101, e101, E101, A101, D101, -, st101⟩ := newO X0 hx hZ hown (own_w hw 381 rfl) (own_w hw 382 rfl) (own_w hw 383 rfl) e0 (g := (mkF m 0 #[oR r0] [])) rfl (hb hby d52_0) (by decide) (by decide)
  obtain ⟨b101, g101⟩ : ∃ z, z = h0.size := ⟨_, rfl⟩
  rw [← g101] at A101 D101 st101
  have g_b101 : n0 ≤ b101 := Nat.le_trans Z0 (Nat.le_of_eq g101.symm)
  have sz_b101 : h0.size ≤ b101 := Nat.le_trans (Keep.refl h0 []).1 (Nat.le_of_eq g101.symm)
  have ZZ102 : n0 ≤ h101.size := Nat.le_trans Z0 E101.1
  have KK103 : Keep h0 h101 [] := (Keep.refl h0 []).ext E101
  have F_list_b101 : Fld Z h101 b101 kLIT "list" "Ljava/util/List;" .null := D101 (Or.inr (own_w hw 394 rfl)) (ty := (.object "java/util/List")) (by decide)
  have F_size_b101 : Fld Z h101 b101 kLIT "size" "I" (.int 0) := D101 (Or.inr (own_w hw 396 rfl)) (ty := .int) (by decide)
  have F_cursor_b101 : Fld Z h101 b101 kLIT "cursor" "I" (.int 0) := D101 (Or.inl (own_w hw 398 rfl)) (ty := .int) (by decide)
  have F_isListIterator_b101 : Fld Z h101 b101 kLIT "isListIterator" "Z" (.int 0) := D101 (Or.inr (own_w hw 400 rfl)) (ty := .boolean) (by decide)
  obtain ⟨cq104, kq104, q104a, q104b, q104c⟩ := isOf hZ e101 (E_r0.ext E101)
  obtain ⟨_, _, ⟨T104, L104, k104, n104⟩, -, X104, ⟨Lc104, hQ104, l104, y104, z104⟩, st104⟩ := X101.virtualBackUp hx (x := (⟨"java/util/ImmutableCollections$AbstractImmutableList", "size", "()I"⟩ : MethodName)) (y := (⟨kL12, "size", "()I"⟩ : MethodName)) hown (mvT hZ (own_w hw 384 rfl)) (mvT hZ (own_w hw 385 rfl)) (mvT hZ (own_w hw 386 rfl)) (by decide) (mvT hZ (own_w hw 387 rfl)) (mvT hZ (own_w hw 343 rfl)) (backOf (W := 3) (rmm48 l Z a0 hw [] r0 x0 x1 em h101 n0 ZZ102 (F_e0_r0.ext E101) (F_e1_r0.ext E101) (hOld.ext E101) S_EMPTY E_em ne_x1_em) hZ (own_w hw 347 rfl) (own_w hw 303 rfl) (by decide) (by decide)) q104a q104c (g := (mkF m 6 #[oR r0] [(.ref r0), (.ref r0), (.ref b101), (.ref b101)])) rfl (by rw [hml]; rfl) (Steps.refl _) (argsL := []) (rest := [(.ref r0), (.ref b101), (.ref b101)]) (lenOf pd19 rfl) rfl (by show 2 * 0 + _ ≤ _; exact Nat.le_of_eq rfl) (hb hby d52_6) (fun _ _ => ⟨rfl, e101, (by decide : 1 + 0 ≤ _), (by decide : 4 + 0 ≤ _)⟩)
  dsimp only [Pt.U, Pt.locs, Pt.cells, Pt.slots] at X104 l104 y104 z104 st104 hQ104
  subst l104 y104 z104
  obtain ⟨rfl, Nq104, P104_0⟩ := hQ104
  have N104 := Fr.app N0 Nq104
  obtain ⟨_, T105, L105, X105, hQ105, st105⟩ := own_cC X104 hx hZ hw hown (b := b101) (W := 1) (rmm53 l Z a0 hw [] b101 r0 (2 : Int32) .null (.int 0) (.int 0) (.int 0) h101 n0 ZZ102 A101 g_b101 F_list_b101 F_size_b101 F_cursor_b101 F_isListIterator_b101) (by decide) (by decide) (by decide) rfl 388 rfl 389 rfl 391 rfl 383 rfl P104_0 (g := (mkF m 9 #[oR r0] [(.int 2), (.ref r0), (.ref b101), (.ref b101)])) rfl (by rw [hml]; rfl) (argsL := [(.ref r0), (.int 2)]) (rest := [(.ref b101)]) (lenOf pd26 rfl) rfl (Nat.le_of_eq rfl) (hb hby d52_9) rfl (cN := 1) rfl (by decide) (sN := 4) rfl (by decide)
  obtain ⟨rfl, Nq105, P105_0, P105_1, P105_2, P105_3, P105_4⟩ := hQ105
  have N105 := Fr.app N104 Nq105
  have ZZ106 : n0 ≤ T105.heap.size := Nat.le_trans ZZ102 P105_0.1
  have KK107 : Keep h0 T105.heap [] := Keep.trans KK103 P105_0 (allS (Or.inr sz_b101) all0)
  obtain ⟨fs, hr, hrun, hended, hW, hsame⟩ := X105.leave (v := some (.ref b101)) (fun h => by rw [Bd.returns] at h; cases h)
  refine ⟨_, _, pre0 _ ?_, hrun, hended, _, _, rfl, ?_, ⟨_, rfl⟩, hW, hsame.mono (by decide) (by decide)⟩
  · show own_S p e below s₁ m 0 #[oR r0] [] _
    refine st101 _ ?_
    show own_S p e below T101 m 3 _ [(.ref b101)] _
    refine XS.dup X101.here hx rfl (hb hby d52_3) rfl rfl ?_
    refine XS.aloadN X101.here hx rfl (hb hby d52_4) rfl rfl ?_
    refine XS.aloadN X101.here hx rfl (hb hby d52_5) rfl rfl ?_
    show own_S p e below T101 m 6 _ [(.ref r0), (.ref r0), (.ref b101), (.ref b101)] _
    refine st104.trans ?_
    show own_S p e below T104 m 9 _ [(.int 2), (.ref r0), (.ref b101), (.ref b101)] _
    refine st105.trans ?_
    show own_S p e below T105 m 12 _ [(.ref b101)] _
    exact retOut X105 hx Bd.returns rfl (Or.inr (Or.inr (Or.inr (Or.inr ⟨rfl, rfl, rfl⟩)))) (hb hby d52_12) hr
  · show Q_it2 Z r0 x0 x1 em h0 n0 _ T105.heap _
    exact ⟨b101, rfl, N105, KK107, sz_b101, (A101.keep P105_0), P105_1, P105_2, P105_3, P105_4⟩
theorem ef_it3 (m : MethodId) (r0 : Addr) : entryFrame m #[(.ref r0)] 1 = mkF m 0 #[oR r0] [] := by first | (simp [entryFrame, mkF, argsToLocals, Value.category]; done) | rfl
def Q_it3 (Z : State) (r0 : Addr) (A : Addr) (x0 : Addr) (x1 : Addr) (x2 : Addr) (kA : ClassId) (wa : Value) (h0 : Heap) (n0 : Nat) (v : Option Value) (h : Heap) (L : List Loc) : Prop := ∃ it : Addr, v = some (.ref it) ∧ Fr n0 L ∧ (Keep h0 h []) ∧ (h0.size ≤ it) ∧ (Exa Z h it kLIT) ∧ (Fld Z h it kLIT "list" "Ljava/util/List;" (.ref r0)) ∧ (Fld Z h it kLIT "size" "I" (.int 3)) ∧ (Fld Z h it kLIT "cursor" "I" (.int 0)) ∧ (Fld Z h it kLIT "isListIterator" "Z" (.int 0))
set_option maxRecDepth 65536 in
set_option maxHeartbeats 40000000 in
theorem rm_it3 (l : Launch) (Z : State) (a0 : Array Value) (hw : own_HW Z a0) (ws : List Jvm.Cond) (r0 : Addr) (A : Addr) (x0 : Addr) (x1 : Addr) (x2 : Addr) (kA : ClassId) (wa : Value) (h0 : Heap) (n0 : Nat) (Z0 : n0 ≤ h0.size) (E_r0 : Exa Z h0 r0 kLN) (F_elements_r0 : Fld Z h0 r0 kLN "elements" kOA (.ref A)) (F_allowNulls_r0 : Fld Z h0 r0 kLN "allowNulls" "Z" wa) (V_A : Arv Z h0 A kA (.object kOB) (3 : Int32) [(.ref x0), (.ref x1), (.ref x2)] .null) :
    MetFree l (⟨"java/util/ImmutableCollections$AbstractImmutableList", "iterator", "()Ljava/util/Iterator;"⟩ : MethodName) (head1 (Jvm.Cond.code (⟨"java/util/ImmutableCollections$AbstractImmutableList", "iterator", "()Ljava/util/Iterator;"⟩ : MethodName) jdk_46_method_10_code 1 (some (.object "java/util/Iterator")) :: ws) ({ frames := 2, cells := 1, slots := 4, locals := 27 } : Room)) (fun a U => a = #[(.ref r0)] ∧ Z.Warmed39 U.vm ∧ U.heap = h0) (fun _ _ _ _ _ => True) (fun _ U o U' => ∃ v L, o = .returned v ∧ Q_it3 Z r0 A x0 x1 x2 kA wa h0 n0 v U'.heap L ∧ FrameEnd U o U' L ({ frames := 2, cells := 1, slots := 4, locals := 27 } : Room).cells ({ frames := 2, cells := 1, slots := 4, locals := 27 } : Room).slots) := by
  refine MetFree.of_bodySF (plainFor_of_name pn9) hisR ?_
  intro p e s m args below meth c s₁ Bd hml0 hP hK
  obtain ⟨rfl, hZ, hh⟩ := hP
  have hx := Bd.exec
  have hby := Bd.bytes
  have hml : c.maxLocals = 1 := hml0
  have hown : s.vm.findClass "java/util/ImmutableCollections$AbstractImmutableList" = some m.cls := findClass_of_methodNamed Bd.named
  have hnm := (name_of_methodNamed Bd.named Bd.method).1
  have X0 : Stand p l e ({ frames := 2, cells := 1, slots := 4, locals := 27 } : Room) s m #[(.ref r0)] below meth c s₁ [] 0 0 := Stand.of_body Bd
  have e0 : s₁.heap = h0 := by rw [← hh, Bd.state]; rfl
  have N0 := Fr.nil n0
  have pre0 : ∀ t, Steps p.tables e below (s₁.setTop (mkF m 0 #[oR r0] [])) t → Steps p.tables e below (s₁.setTop (entryFrame m #[(.ref r0)] 1)) t := fun t k => castTop (ef_it3 m r0) k
  obtain ⟨T101, h101, X101, e101, E101, A101, D101, -, st101⟩ := newO X0 hx hZ hown (own_w hw 381 rfl) (own_w hw 382 rfl) (own_w hw 383 rfl) e0 (g := (mkF m 0 #[oR r0] [])) rfl (hb hby d52_0) (by decide) (by decide)
  obtain ⟨b101, g101⟩ : ∃ z, z = h0.size := ⟨_, rfl⟩
  rw [← g101] at A101 D101 st101
  have g_b101 : n0 ≤ b101 := Nat.le_trans Z0 (Nat.le_of_eq g101.symm)
  have sz_b101 : h0.size ≤ b101 := Nat.le_trans (Keep.refl h0 []).1 (Nat.le_of_eq g101.symm)
  have ZZ102 : n0 ≤ h101.size := Nat.le_trans Z0 E101.1
  have KK103 : Keep h0 h101 [] := (Keep.refl h0 []).ext E101
  have F_list_b101 : Fld Z h101 b101 kLIT "list" "Ljava/util/List;" .null := D101 (Or.inr (own_w hw 394 rfl)) (ty := (.object "java/util/List")) (by decide)
  have F_size_b101 : Fld Z h101 b101 kLIT "size" "I" (.int 0) := D101 (Or.inr (own_w hw 396 rfl)) (ty := .int) (by decide)
  have F_cursor_b101 : Fld Z h101 b101 kLIT "cursor" "I" (.int 0) := D101 (Or.inl (own_w hw 398 rfl)) (ty := .int) (by decide)
  have F_isListIterator_b101 : Fld Z h101 b101 kLIT "isListIterator" "Z" (.int 0) := D101 (Or.inr (own_w hw 400 rfl)) (ty := .boolean) (by decide)
  have Fc104 := (F_allowNulls_r0.ext E101)
  obtain ⟨cq105, kq105, q105a, q105b, q105c⟩ := isOf hZ e101 (E_r0.ext E101)
  obtain ⟨_, _, ⟨T105, L105, k105, n105⟩, -, X105, ⟨Lc105, hQ105, l105, y105, z105⟩, st105⟩ := X101.virtualBackUp hx (x := (⟨"java/util/ImmutableCollections$AbstractImmutableList", "size", "()I"⟩ : MethodName)) (y := (⟨kLN, "size", "()I"⟩ : MethodName)) hown (mvT hZ (own_w hw 384 rfl)) (mvT hZ (own_w hw 385 rfl)) (mvT hZ (own_w hw 386 rfl)) (by decide) (mvT hZ (own_w hw 415 rfl)) (mvT hZ (own_w hw 359 rfl)) (backOf (W := 3) (rmm50 l Z a0 hw [] r0 A x0 x1 x2 kA wa h101 n0 ZZ102 (F_elements_r0.ext E101) Fc104 (V_A.ext E101)) hZ (own_w hw 362 rfl) (own_w hw 276 rfl) (by decide) (by decide)) q105a q105c (g := (mkF m 6 #[oR r0] [(.ref r0), (.ref r0), (.ref b101), (.ref b101)])) rfl (by rw [hml]; rfl) (Steps.refl _) (argsL := []) (rest := [(.ref r0), (.ref b101), (.ref b101)]) (lenOf pd19 rfl) rfl (by show 2 * 0 + _ ≤ _; exact Nat.le_of_eq rfl) (hb hby d52_6) (fun _ _ => ⟨rfl, e101, (by decide : 1 + 0 ≤ _), (by decide : 4 + 0 ≤ _)⟩)
  dsimp only [Pt.U, Pt.locs, Pt.cells, Pt.slots] at X105 l105 y105 z105 st105 hQ105
  subst l105 y105 z105
  obtain ⟨rfl, Nq105, P105_0⟩ := hQ105
  have N105 := Fr.app N0 Nq105
  obtain ⟨_, T106, L106, X106, hQ106, st106⟩ := own_cC X105 hx hZ hw hown (b := b101) (W := 1) (rmm53 l Z a0 hw [] b101 r0 (3 : Int32) .null (.int 0) (.int 0) (.int 0) h101 n0 ZZ102 A101 g_b101 F_list_b101 F_size_b101 F_cursor_b101 F_isListIterator_b101) (by decide) (by decide) (by decide) rfl 388 rfl 389 rfl 391 rfl 383 rfl P105_0 (g := (mkF m 9 #[oR r0] [(.int 3), (.ref r0), (.ref b101), (.ref b101)])) rfl (by rw [hml]; rfl) (argsL := [(.ref r0), (.int 3)]) (rest := [(.ref b101)]) (lenOf pd26 rfl) rfl (Nat.le_of_eq rfl) (hb hby d52_9) rfl (cN := 1) rfl (by decide) (sN := 4) rfl (by decide)
  obtain ⟨rfl, Nq106, P106_0, P106_1, P106_2, P106_3, P106_4⟩ := hQ106
  have N106 := Fr.app N105 Nq106
  have ZZ107 : n0 ≤ T106.heap.size := Nat.le_trans ZZ102 P106_0.1
  have KK108 : Keep h0 T106.heap [] := Keep.trans KK103 P106_0 (allS (Or.inr sz_b101) all0)
  obtain ⟨fs, hr, hrun, hended, hW, hsame⟩ := X106.leave (v := some (.ref b101)) (fun h => by rw [Bd.returns] at h; cases h)
  refine ⟨_, _, pre0 _ ?_, hrun, hended, _, _, rfl, ?_, ⟨_, rfl⟩, hW, hsame.mono (by decide) (by decide)⟩
  · show own_S p e below s₁ m 0 #[oR r0] [] _
    refine st101 _ ?_
    show own_S p e below T101 m 3 _ [(.ref b101)] _
    refine XS.dup X101.here hx rfl (hb hby d52_3) rfl rfl ?_
    refine XS.aloadN X101.here hx rfl (hb hby d52_4) rfl rfl ?_
    refine XS.aloadN X101.here hx rfl (hb hby d52_5) rfl rfl ?_
    show own_S p e below T101 m 6 _ [(.ref r0), (.ref r0), (.ref b101), (.ref b101)] _
    refine st105.trans ?_
    show own_S p e below T105 m 9 _ [(.int 3), (.ref r0), (.ref b101), (.ref b101)] _
    refine st106.trans ?_
    show own_S p e below T106 m 12 _ [(.ref b101)] _
    exact retOut X106 hx Bd.returns rfl (Or.inr (Or.inr (Or.inr (Or.inr ⟨rfl, rfl, rfl⟩)))) (hb hby d52_12) hr
  · show Q_it3 Z r0 A x0 x1 x2 kA wa h0 n0 _ T106.heap _
    exact ⟨b101, rfl, N106, KK108, sz_b101, (A101.keep P106_0), P106_1, P106_2, P106_3, P106_4⟩
theorem d54_0 : decode k54 0 = .ok (.aload_n 0, 1) := by decide +kernel
theorem d54_1 : decode k54 1 = .ok (.getfield 17, 3) := by decide +kernel
theorem d54_4 : decode k54 4 = .ok (.aload_n 0, 1) := by decide +kernel
theorem d54_5 : decode k54 5 = .ok (.getfield 13, 3) := by decide +kernel
theorem d54_8 : decode k54 8 = .ok (.if_icmp .eq 7, 3) := by decide +kernel
theorem d54_11 : decode k54 11 = .ok (.iconst 1, 1) := by decide +kernel
theorem d54_12 : decode k54 12 = .ok (.goto 4, 3) := by decide +kernel
theorem d54_16 : decode k54 16 = .ok (.ireturn, 1) := by decide +kernel
theorem ef_lh1 (m : MethodId) (r0 : Addr) : entryFrame m #[(.ref r0)] 1 = mkF m 0 #[oR r0] [] := by first | (simp [entryFrame, mkF, argsToLocals, Value.category]; done) | rfl
def Q_lh1 (Z : State) (r0 : Addr) (cc : Int32) (n : Int32) (w1 : Value) (w4 : Value) (h0 : Heap) (n0 : Nat) (v : Option Value) (h : Heap) (L : List Loc) : Prop := v = some (.int 1) ∧ Fr n0 L ∧ (h = h0)
set_option maxRecDepth 65536 in
set_option maxHeartbeats 40000000 in
theorem rm_lh1 (l : Launch) (Z : State) (a0 : Array Value) (hw : own_HW Z a0) (ws : List Jvm.Cond) (r0 : Addr) (cc : Int32) (n : Int32) (w1 : Value) (w4 : Value) (h0 : Heap) (n0 : Nat) (Z0 : n0 ≤ h0.size) (F_list_r0 : Fld Z h0 r0 kLIT "list" "Ljava/util/List;" w1) (F_size_r0 : Fld Z h0 r0 kLIT "size" "I" (.int n)) (F_cursor_r0 : Fld Z h0 r0 kLIT "cursor" "I" (.int cc)) (F_isListIterator_r0 : Fld Z h0 r0 kLIT "isListIterator" "Z" w4) (hq : ¬ (cc = n)) :
    MetFree l (⟨kLIT, "hasNext", "()Z"⟩ : MethodName) (head1 (Jvm.Cond.code (⟨kLIT, "hasNext", "()Z"⟩ : MethodName) jdk_53_method_3_code 1 (some .boolean) :: ws) ({ frames := 0, cells := 0, slots := 0, locals := 0 } : Room)) (fun a U => a = #[(.ref r0)] ∧ Z.Warmed39 U.vm ∧ U.heap = h0) (fun _ _ _ _ _ => True) (fun _ U o U' => ∃ v L, o = .returned v ∧ Q_lh1 Z r0 cc n w1 w4 h0 n0 v U'.heap L ∧ FrameEnd U o U' L ({ frames := 0, cells := 0, slots := 0, locals := 0 } : Room).cells ({ frames := 0, cells := 0, slots := 0, locals := 0 } : Room).slots) := by
  refine MetFree.of_bodySF (plainFor_of_name pn17) hisR ?_
  intro p e s m args below meth c s₁ Bd hml0 hP hK
  obtain ⟨rfl, hZ, hh⟩ := hP
  have hx := Bd.exec
  have hby := Bd.bytes
  have hml : c.maxLocals = 1 := hml0
  have hown : s.vm.findClass kLIT = some m.cls := findClass_of_methodNamed Bd.named
  have hnm := (name_of_methodNamed Bd.named Bd.method).1
  have X0 : Stand p l e ({ frames := 0, cells := 0, slots := 0, locals := 0 } : Room) s m #[(.ref r0)] below meth c s₁ [] 0 0 := Stand.of_body Bd
  have e0 : s₁.heap = h0 := by rw [← hh, Bd.state]; rfl
  have N0 := Fr.nil n0
  have pre0 : ∀ t, Steps p.tables e below (s₁.setTop (mkF m 0 #[oR r0] [])) t → Steps p.tables e below (s₁.setTop (entryFrame m #[(.ref r0)] 1)) t := fun t k => castTop (ef_lh1 m r0) k
  obtain ⟨T101, X101, e101, st101⟩ := getF X0 hx hZ hown (host := "") (Or.inl (own_w hw 397 rfl)) Via.refl e0 F_cursor_r0 (g := (mkF m 1 #[oR r0] [(.ref r0)])) rfl rfl (hb hby d54_1)
  obtain ⟨T102, X102, e102, st102⟩ := getF X101 hx hZ hown (host := "") (Or.inl (own_w hw 395 rfl)) Via.refl e101 F_size_r0 (g := (mkF m 5 #[oR r0] [(.ref r0), (.int cc)])) rfl rfl (hb hby d54_5)
  obtain ⟨fs, hr, hrun, hended, hW, hsame⟩ := X102.leave (v := some (.int 1)) (fun h => by rw [Bd.returns] at h; cases h)
  refine ⟨_, _, pre0 _ ?_, hrun, hended, _, _, rfl, ?_, ⟨_, rfl⟩, hW, hsame.mono (by decide) (by decide)⟩
  · show own_S p e below s₁ m 0 #[oR r0] [] _
    refine XS.aloadN X0.here hx rfl (hb hby d54_0) rfl rfl ?_
    show own_S p e below s₁ m 1 _ [(.ref r0)] _
    refine st101 _ ?_
    show own_S p e below T101 m 4 _ [(.int cc)] _
    refine XS.aloadN X101.here hx rfl (hb hby d54_4) rfl rfl ?_
    show own_S p e below T101 m 5 _ [(.ref r0), (.int cc)] _
    refine st102 _ ?_
    show own_S p e below T102 m 8 _ [(.int n), (.int cc)] _
    refine XS.icmpNo X102.here hx rfl (hb hby d54_8) rfl (feq (hq : ¬ (cc = n))).1 ?_
    refine XS.iconst X102.here hx rfl (hb hby d54_11) ?_
    refine XS.goto X102.here hx rfl (pc0 := 12) (pc' := 16) rfl (hb hby d54_12) (by decide) (by decide) ?_
    show own_S p e below T102 m 16 #[oR r0] [(.int 1)] _
    exact retN X102 hx (t := .boolean) Bd.returns (by simp) (hb hby d54_16) hr
  · show Q_lh1 Z r0 cc n w1 w4 h0 n0 _ T102.heap _
    rw [e102]
    exact ⟨rfl, N0, rfl⟩
theorem d54_15 : decode k54 15 = .ok (.iconst 0, 1) := by decide +kernel
theorem ef_lh0 (m : MethodId) (r0 : Addr) : entryFrame m #[(.ref r0)] 1 = mkF m 0 #[oR r0] [] := by first | (simp [entryFrame, mkF, argsToLocals, Value.category]; done) | rfl
def Q_lh0 (Z : State) (r0 : Addr) (cc : Int32) (n : Int32) (w1 : Value) (w4 : Value) (h0 : Heap) (n0 : Nat) (v : Option Value) (h : Heap) (L : List Loc) : Prop := v = some (.int 0) ∧ Fr n0 L ∧ (h = h0)
set_option maxRecDepth 65536 in
set_option maxHeartbeats 40000000 in
theorem rm_lh0 (l : Launch) (Z : State) (a0 : Array Value) (hw : own_HW Z a0) (ws : List Jvm.Cond) (r0 : Addr) (cc : Int32) (n : Int32) (w1 : Value) (w4 : Value) (h0 : Heap) (n0 : Nat) (Z0 : n0 ≤ h0.size) (F_list_r0 : Fld Z h0 r0 kLIT "list" "Ljava/util/List;" w1) (F_size_r0 : Fld Z h0 r0 kLIT "size" "I" (.int n)) (F_cursor_r0 : Fld Z h0 r0 kLIT "cursor" "I" (.int cc)) (F_isListIterator_r0 : Fld Z h0 r0 kLIT "isListIterator" "Z" w4) (hq : cc = n) :
    MetFree l (⟨kLIT, "hasNext", "()Z"⟩ : MethodName) (head1 (Jvm.Cond.code (⟨kLIT, "hasNext", "()Z"⟩ : MethodName) jdk_53_method_3_code 1 (some .boolean) :: ws) ({ frames := 0, cells := 0, slots := 0, locals := 0 } : Room)) (fun a U => a = #[(.ref r0)] ∧ Z.Warmed39 U.vm ∧ U.heap = h0) (fun _ _ _ _ _ => True) (fun _ U o U' => ∃ v L, o = .returned v ∧ Q_lh0 Z r0 cc n w1 w4 h0 n0 v U'.heap L ∧ FrameEnd U o U' L ({ frames := 0, cells := 0, slots := 0, locals := 0 } : Room).cells ({ frames := 0, cells := 0, slots := 0, locals := 0 } : Room).slots) := by
  refine MetFree.of_bodySF (plainFor_of_name pn17) hisR ?_
  intro p e s m args below meth c s₁ Bd hml0 hP hK
  obtain ⟨rfl, hZ, hh⟩ := hP
  have hx := Bd.exec
  have hby := Bd.bytes
  have hml : c.maxLocals = 1 := hml0
  have hown : s.vm.findClass kLIT = some m.cls := findClass_of_methodNamed Bd.named
  have hnm := (name_of_methodNamed Bd.named Bd.method).1
  have X0 : Stand p l e ({ frames := 0, cells := 0, slots := 0, locals := 0 } : Room) s m #[(.ref r0)] below meth c s₁ [] 0 0 := Stand.of_body Bd
  have e0 : s₁.heap = h0 := by rw [← hh, Bd.state]; rfl
  have N0 := Fr.nil n0
  have pre0 : ∀ t, Steps p.tables e below (s₁.setTop (mkF m 0 #[oR r0] [])) t → Steps p.tables e below (s₁.setTop (entryFrame m #[(.ref r0)] 1)) t := fun t k => castTop (ef_lh0 m r0) k
  obtain ⟨T101, X101, e101, st101⟩ := getF X0 hx hZ hown (host := "") (Or.inl (own_w hw 397 rfl)) Via.refl e0 F_cursor_r0 (g := (mkF m 1 #[oR r0] [(.ref r0)])) rfl rfl (hb hby d54_1)
  obtain ⟨T102, X102, e102, st102⟩ := getF X101 hx hZ hown (host := "") (Or.inl (own_w hw 395 rfl)) Via.refl e101 F_size_r0 (g := (mkF m 5 #[oR r0] [(.ref r0), (.int cc)])) rfl rfl (hb hby d54_5)
  obtain ⟨fs, hr, hrun, hended, hW, hsame⟩ := X102.leave (v := some (.int 0)) (fun h => by rw [Bd.returns] at h; cases h)
  refine ⟨_, _, pre0 _ ?_, hrun, hended, _, _, rfl, ?_, ⟨_, rfl⟩, hW, hsame.mono (by decide) (by decide)⟩
  · show own_S p e below s₁ m 0 #[oR r0] [] _
    refine XS.aloadN X0.here hx rfl (hb hby d54_0) rfl rfl ?_
    show own_S p e below s₁ m 1 _ [(.ref r0)] _
    refine st101 _ ?_
    show own_S p e below T101 m 4 _ [(.int cc)] _
    refine XS.aloadN X101.here hx rfl (hb hby d54_4) rfl rfl ?_
    show own_S p e below T101 m 5 _ [(.ref r0), (.int cc)] _
    refine st102 _ ?_
    show own_S p e below T102 m 8 _ [(.int n), (.int cc)] _
    refine XS.icmpYes X102.here hx rfl (pc0 := 8) (pc' := 15) rfl (hb hby d54_8) rfl (teq (hq : cc = n)).1 (by decide) (by decide) ?_
    refine XS.iconst X102.here hx rfl (hb hby d54_15) ?_
    show own_S p e below T102 m 16 _ [(.int 0)] _
    exact retN X102 hx (t := .boolean) Bd.returns (by simp) (hb hby d54_16) hr
  · show Q_lh0 Z r0 cc n w1 w4 h0 n0 _ T102.heap _
    rw [e102]
    exact ⟨rfl, N0, rfl⟩
theorem d55_0 : decode k55 0 = .ok (.aload_n 0, 1) := by decide +kernel
theorem d55_1 : decode k55 1 = .ok (.getfield 17, 3) := by decide +kernel
theorem d55_4 : decode k55 4 = .ok (.istore_n 1, 1) := by decide +kernel
theorem d55_5 : decode k55 5 = .ok (.aload_n 0, 1) := by decide +kernel
theorem d55_6 : decode k55 6 = .ok (.getfield 7, 3) := by decide +kernel
theorem d55_9 : decode k55 9 = .ok (.iload_n 1, 1) := by decide +kernel
theorem d55_10 : decode k55 10 = .ok (.invokeinterface 24 2, 5) := by decide +kernel
theorem d55_15 : decode k55 15 = .ok (.astore_n 2, 1) := by decide +kernel
theorem d55_16 : decode k55 16 = .ok (.aload_n 0, 1) := by decide +kernel
theorem d55_17 : decode k55 17 = .ok (.iload_n 1, 1) := by decide +kernel
theorem d55_18 : decode k55 18 = .ok (.iconst 1, 1) := by decide +kernel
theorem d55_19 : decode k55 19 = .ok (.iadd, 1) := by decide +kernel
theorem d55_20 : decode k55 20 = .ok (.putfield 17, 3) := by decide +kernel
theorem d55_23 : decode k55 23 = .ok (.aload_n 2, 1) := by decide +kernel
theorem d55_24 : decode k55 24 = .ok (.areturn, 1) := by decide +kernel
theorem ef_ln2_0 (m : MethodId) (r0 : Addr) : entryFrame m #[(.ref r0)] 3 = mkF m 0 #[oR r0, oU, oU] [] := by first | (simp [entryFrame, mkF, argsToLocals, Value.category]; done) | rfl
def Q_ln2_0 (Z : State) (r0 : Addr) (li : Addr) (x0 : Addr) (x1 : Addr) (em : Addr) (w4 : Value) (h0 : Heap) (n0 : Nat) (v : Option Value) (h : Heap) (L : List Loc) : Prop := v = some (.ref x0) ∧ Fr n0 L ∧ (Keep h0 h [r0]) ∧ (Fld Z h r0 kLIT "list" "Ljava/util/List;" (.ref li)) ∧ (Fld Z h r0 kLIT "size" "I" (.int 2)) ∧ (Fld Z h r0 kLIT "cursor" "I" (.int 1)) ∧ (Fld Z h r0 kLIT "isListIterator" "Z" w4)
set_option maxRecDepth 65536 in
set_option maxHeartbeats 40000000 in
theorem rm_ln2_0 (l : Launch) (Z : State) (a0 : Array Value) (hw : own_HW Z a0) (ws : List Jvm.Cond) (r0 : Addr) (li : Addr) (x0 : Addr) (x1 : Addr) (em : Addr) (w4 : Value) (h0 : Heap) (n0 : Nat) (Z0 : n0 ≤ h0.size) (E_r0 : Exa Z h0 r0 kLIT) (g_r0 : n0 ≤ r0) (F_list_r0 : Fld Z h0 r0 kLIT "list" "Ljava/util/List;" (.ref li)) (F_size_r0 : Fld Z h0 r0 kLIT "size" "I" (.int 2)) (F_cursor_r0 : Fld Z h0 r0 kLIT "cursor" "I" (.int 0)) (F_isListIterator_r0 : Fld Z h0 r0 kLIT "isListIterator" "Z" w4) (E_li : Exa Z h0 li kL12) (F_e0_li : Fld Z h0 li kL12 "e0" "Ljava/lang/Object;" (.ref x0)) (F_e1_li : Fld Z h0 li kL12 "e1" "Ljava/lang/Object;" (.ref x1)) (hOld : Old Z n0 h0) (S_EMPTY : Sta Z Z.heap "java/util/ImmutableCollections" "EMPTY" "Ljava/lang/Object;" (.ref em)) (E_em : Exa Z Z.heap em kOB) (ne_x1_em : x1 ≠ em) :
    MetFree l (⟨kLIT, "next", "()Ljava/lang/Object;"⟩ : MethodName) (head1 (Jvm.Cond.codeWith (⟨kLIT, "next", "()Ljava/lang/Object;"⟩ : MethodName) jdk_53_method_4_code 3 (some (.object kOB)) [((0 : Nat), (24 : Nat), (25 : Nat), (30 : Nat))] :: ws) ({ frames := 1, cells := 0, slots := 0, locals := 13 } : Room)) (fun a U => a = #[(.ref r0)] ∧ Z.Warmed39 U.vm ∧ U.heap = h0) (fun _ _ _ _ _ => True) (fun _ U o U' => ∃ v L, o = .returned v ∧ Q_ln2_0 Z r0 li x0 x1 em w4 h0 n0 v U'.heap L ∧ FrameEnd U o U' L ({ frames := 1, cells := 0, slots := 0, locals := 13 } : Room).cells ({ frames := 1, cells := 0, slots := 0, locals := 13 } : Room).slots) := by
  refine MetFree.of_bodySF (plainFor_of_name pn17) hisWith ?_
  intro p e s m args below meth c s₁ Bd hml0 hP hK
  obtain ⟨rfl, hZ, hh⟩ := hP
  have hx := Bd.exec
  have hby := Bd.bytes
  have hml : c.maxLocals = 3 := hml0
  have hown : s.vm.findClass kLIT = some m.cls := findClass_of_methodNamed Bd.named
  have hnm := (name_of_methodNamed Bd.named Bd.method).1
  have X0 : Stand p l e ({ frames := 1, cells := 0, slots := 0, locals := 13 } : Room) s m #[(.ref r0)] below meth c s₁ [] 0 0 := Stand.of_body Bd
  have e0 : s₁.heap = h0 := by rw [← hh, Bd.state]; rfl
  have N0 := Fr.nil n0
  have pre0 : ∀ t, Steps p.tables e below (s₁.setTop (mkF m 0 #[oR r0, oU, oU] [])) t → Steps p.tables e below (s₁.setTop (entryFrame m #[(.ref r0)] 3)) t := fun t k => castTop (ef_ln2_0 m r0) k
  obtain ⟨T101, X101, e101, st101⟩ := getF X0 hx hZ hown (host := "") (Or.inl (own_w hw 397 rfl)) Via.refl e0 F_cursor_r0 (g := (mkF m 1 #[oR r0, oU, oU] [(.ref r0)])) rfl rfl (hb hby d55_1)
  obtain ⟨T102, X102, e102, st102⟩ := getF X101 hx hZ hown (host := "") (Or.inl (own_w hw 393 rfl)) Via.refl e101 F_list_r0 (g := (mkF m 6 #[oR r0, oI 0, oU] [(.ref r0)])) rfl rfl (hb hby d55_6)
  obtain ⟨_, T103, L103, X103, hQ103, st103⟩ := own_cI X102 hx hZ hw hown (b := li) (W := 0) (rm_g12_0 l Z a0 hw [] li x0 x1 em h0 n0 Z0 F_e0_li F_e1_li hOld S_EMPTY E_em ne_x1_em) (by decide) (by decide) (by decide) 412 rfl 122 rfl 123 rfl 351 rfl 352 rfl 353 rfl 354 rfl 346 rfl 355 rfl 303 rfl e102 E_li (g := (mkF m 10 #[oR r0, oI 0, oU] [(.int 0), (.ref li)])) rfl (by rw [hml]; rfl) (argsL := [(.int 0)]) (rest := []) (lenOf pd7 rfl) rfl (Nat.le_of_eq rfl) (hb hby d55_10) rfl (cN := 0) rfl (by decide) (sN := 0) rfl (by decide)
  obtain ⟨rfl, Nq103, P103_0⟩ := hQ103
  have N103 := Fr.app N0 Nq103
  obtain ⟨T104, h104, X104, e104, W104, st104⟩ := putF X103 hx hZ hown (host := "") (Or.inl (own_w hw 397 rfl)) Via.refl P103_0 F_cursor_r0 E_r0 (Or.inl (own_w hw 398 rfl)) (own_w hw 382 rfl) (ty := .int) (by decide) rfl rfl (g := (mkF m 20 #[oR r0, oI 0, oR x0] [(.int 1), (.ref r0)])) rfl rfl (hb hby d55_20)
  have Fw104 := F_cursor_r0.same W104
  have N104 := Fr.snoc X104 N103 g_r0
  have ZZ105 : n0 ≤ h104.size := Nat.le_trans Z0 (Nat.le_of_eq W104.size.symm)
  have KK106 : Keep h0 h104 [r0] := (Keep.refl h0 [r0]).wr W104 (Or.inl (List.mem_of_getElem? (i := 0) rfl))
  obtain ⟨fs, hr, hrun, hended, hW, hsame⟩ := X104.leave (v := some (.ref x0)) (fun h => by rw [Bd.returns] at h; cases h)
  refine ⟨_, _, pre0 _ ?_, hrun, hended, _, _, rfl, ?_, ⟨_, rfl⟩, hW, hsame.mono (by decide) (by decide)⟩
  · show own_S p e below s₁ m 0 #[oR r0, oU, oU] [] _
    refine XS.aloadN X0.here hx rfl (hb hby d55_0) rfl rfl ?_
    show own_S p e below s₁ m 1 _ [(.ref r0)] _
    refine st101 _ ?_
    show own_S p e below T101 m 4 _ [(.int 0)] _
    refine XS.istoreN X101.here hx rfl (hb hby d55_4) rfl (l' := #[oR r0, oI 0, oU]) rfl ?_
    refine XS.aloadN X101.here hx rfl (hb hby d55_5) rfl rfl ?_
    show own_S p e below T101 m 6 _ [(.ref r0)] _
    refine st102 _ ?_
    show own_S p e below T102 m 9 _ [(.ref li)] _
    refine XS.iloadN X102.here hx rfl (hb hby d55_9) rfl ?_
    show own_S p e below T102 m 10 _ [(.int 0), (.ref li)] _
    refine st103.trans ?_
    show own_S p e below T103 m 15 _ [(.ref x0)] _
    refine XS.astoreN X103.here hx rfl (hb hby d55_15) rfl rfl (l' := #[oR r0, oI 0, oR x0]) rfl ?_
    refine XS.aloadN X103.here hx rfl (hb hby d55_16) rfl rfl ?_
    refine XS.iloadN X103.here hx rfl (hb hby d55_17) rfl ?_
    refine XS.iconst X103.here hx rfl (hb hby d55_18) ?_
    show own_S p e below T103 m 19 _ [(.int 1), (.int 0), (.ref r0)] _
    refine XS.iadd X103.here hx rfl (hb hby d55_19) rfl ?_
    show own_S p e below T103 m 20 _ [(.int ((0 : Int32) + (1 : Int32))), (.ref r0)] _
    refine reI (by decide : ((0 : Int32) + (1 : Int32)) = (1 : Int32)) ?_
    show own_S p e below T103 m 20 _ [(.int 1), (.ref r0)] _
    refine st104 _ ?_
    show own_S p e below T104 m 23 _ [] _
    refine XS.aloadN X104.here hx rfl (hb hby d55_23) rfl rfl ?_
    show own_S p e below T104 m 24 #[oR r0, oI 0, oR x0] [(.ref x0)] _
    exact retOut X104 hx Bd.returns rfl (Or.inr (Or.inr (Or.inr (Or.inr ⟨rfl, rfl, rfl⟩)))) (hb hby d55_24) hr
  · show Q_ln2_0 Z r0 li x0 x1 em w4 h0 n0 _ T104.heap _
    rw [e104]
    exact ⟨rfl, N104, KK106, (F_list_r0.other W104 (Or.inr (Ne.symm (sn13 hw)))), (F_size_r0.other W104 (Or.inr (Ne.symm (sn14 hw)))), Fw104, (F_isListIterator_r0.other W104 (Or.inr (sn17 hw)))⟩
theorem ef_ln2_1 (m : MethodId) (r0 : Addr) : entryFrame m #[(.ref r0)] 3 = mkF m 0 #[oR r0, oU, oU] [] := by first | (simp [entryFrame, mkF, argsToLocals, Value.category]; done) | rfl
def Q_ln2_1 (Z : State) (r0 : Addr) (li : Addr) (x0 : Addr) (x1 : Addr) (em : Addr) (w4 : Value) (h0 : Heap) (n0 : Nat) (v : Option Value) (h : Heap) (L : List Loc) : Prop := v = some (.ref x1) ∧ Fr n0 L ∧ (Keep h0 h [r0]) ∧ (Fld Z h r0 kLIT "list" "Ljava/util/List;" (.ref li)) ∧ (Fld Z h r0 kLIT "size" "I" (.int 2)) ∧ (Fld Z h r0 kLIT "cursor" "I" (.int 2)) ∧ (Fld Z h r0 kLIT "isListIterator" "Z" w4)
set_option maxRecDepth 65536 in
set_option maxHeartbeats 40000000 in
theorem rm_ln2_1 (l : Launch) (Z : State) (a0 : Array Value) (hw : own_HW Z a0) (ws : List Jvm.Cond) (r0 : Addr) (li : Addr) (x0 : Addr) (x1 : Addr) (em : Addr) (w4 : Value) (h0 : Heap) (n0 : Nat) (Z0 : n0 ≤ h0.size) (E_r0 : Exa Z h0 r0 kLIT) (g_r0 : n0 ≤ r0) (F_list_r0 : Fld Z h0 r0 kLIT "list" "Ljava/util/List;" (.ref li)) (F_size_r0 : Fld Z h0 r0 kLIT "size" "I" (.int 2)) (F_cursor_r0 : Fld Z h0 r0 kLIT "cursor" "I" (.int 1)) (F_isListIterator_r0 : Fld Z h0 r0 kLIT "isListIterator" "Z" w4) (E_li : Exa Z h0 li kL12) (F_e0_li : Fld Z h0 li kL12 "e0" "Ljava/lang/Object;" (.ref x0)) (F_e1_li : Fld Z h0 li kL12 "e1" "Ljava/lang/Object;" (.ref x1)) (hOld : Old Z n0 h0) (S_EMPTY : Sta Z Z.heap "java/util/ImmutableCollections" "EMPTY" "Ljava/lang/Object;" (.ref em)) (E_em : Exa Z Z.heap em kOB) (ne_x1_em : x1 ≠ em) :
    MetFree l (⟨kLIT, "next", "()Ljava/lang/Object;"⟩ : MethodName) (head1 (Jvm.Cond.codeWith (⟨kLIT, "next", "()Ljava/lang/Object;"⟩ : MethodName) jdk_53_method_4_code 3 (some (.object kOB)) [((0 : Nat), (24 : Nat), (25 : Nat), (30 : Nat))] :: ws) ({ frames := 1, cells := 0, slots := 0, locals := 13 } : Room)) (fun a U => a = #[(.ref r0)] ∧ Z.Warmed39 U.vm ∧ U.heap = h0) (fun _ _ _ _ _ => True) (fun _ U o U' => ∃ v L, o = .returned v ∧ Q_ln2_1 Z r0 li x0 x1 em w4 h0 n0 v U'.heap L ∧ FrameEnd U o U' L ({ frames := 1, cells := 0, slots := 0, locals := 13 } : Room).cells ({ frames := 1, cells := 0, slots := 0, locals := 13 } : Room).slots) := by
  refine MetFree.of_bodySF (plainFor_of_name pn17) hisWith ?_
  intro p e s m args below meth c s₁ Bd hml0 hP hK
  obtain ⟨rfl, hZ, hh⟩ := hP
  have hx := Bd.exec
  have hby := Bd.bytes
  have hml : c.maxLocals = 3 := hml0
  have hown : s.vm.findClass kLIT = some m.cls := findClass_of_methodNamed Bd.named
  have hnm := (name_of_methodNamed Bd.named Bd.method).1
  have X0 : Stand p l e ({ frames := 1, cells := 0, slots := 0, locals := 13 } : Room) s m #[(.ref r0)] below meth c s₁ [] 0 0 := Stand.of_body Bd
  have e0 : s₁.heap = h0 := by rw [← hh, Bd.state]; rfl
  have N0 := Fr.nil n0
  have pre0 : ∀ t, Steps p.tables e below (s₁.setTop (mkF m 0 #[oR r0, oU, oU] [])) t → Steps p.tables e below (s₁.setTop (entryFrame m #[(.ref r0)] 3)) t := fun t k => castTop (ef_ln2_1 m r0) k
  obtain ⟨T101, X101, e101, st101⟩ := getF X0 hx hZ hown (host := "") (Or.inl (own_w hw 397 rfl)) Via.refl e0 F_cursor_r0 (g := (mkF m 1 #[oR r0, oU, oU] [(.ref r0)])) rfl rfl (hb hby d55_1)
  obtain ⟨T102, X102, e102, st102⟩ := getF X101 hx hZ hown (host := "") (Or.inl (own_w hw 393 rfl)) Via.refl e101 F_list_r0 (g := (mkF m 6 #[oR r0, oI 1, oU] [(.ref r0)])) rfl rfl (hb hby d55_6)
  obtain ⟨_, T103, L103, X103, hQ103, st103⟩ := own_cI X102 hx hZ hw hown (b := li) (W := 0) (rm_g12_1 l Z a0 hw [] li x0 x1 em h0 n0 Z0 F_e0_li F_e1_li hOld S_EMPTY E_em ne_x1_em) (by decide) (by decide) (by decide) 412 rfl 122 rfl 123 rfl 351 rfl 352 rfl 353 rfl 354 rfl 346 rfl 355 rfl 303 rfl e102 E_li (g := (mkF m 10 #[oR r0, oI 1, oU] [(.int 1), (.ref li)])) rfl (by rw [hml]; rfl) (argsL := [(.int 1)]) (rest := []) (lenOf pd7 rfl) rfl (Nat.le_of_eq rfl) (hb hby d55_10) rfl (cN := 0) rfl (by decide) (sN := 0) rfl (by decide)
  obtain ⟨rfl, Nq103, P103_0⟩ := hQ103
  have N103 := Fr.app N0 Nq103
  obtain ⟨T104, h104, X104, e104, W104, st104⟩ := putF X103 hx hZ hown (host := "") (Or.inl (own_w hw 397 rfl)) Via.refl P103_0 F_cursor_r0 E_r0 (Or.inl (own_w hw 398 rfl)) (own_w hw 382 rfl) (ty := .int) (by decide) rfl rfl (g := (mkF m 20 #[oR r0, oI 1, oR x1] [(.int 2), (.ref r0)])) rfl rfl (hb hby d55_20)
  have Fw104 := F_cursor_r0.same W104
  have N104 := Fr.snoc X104 N103 g_r0
  have ZZ105 : n0 ≤ h104.size := Nat.le_trans Z0 (Nat.le_of_eq W104.size.symm)
  have KK106 : Keep h0 h104 [r0] := (Keep.refl h0 [r0]).wr W104 (Or.inl (List.mem_of_getElem? (i := 0) rfl))
  obtain ⟨fs, hr, hrun, hended, hW, hsame⟩ := X104.leave (v := some (.ref x1)) (fun h => by rw [Bd.returns] at h; cases h)
  refine ⟨_, _, pre0 _ ?_, hrun, hended, _, _, rfl, ?_, ⟨_, rfl⟩, hW, hsame.mono (by decide) (by decide)⟩
  · show own_S p e below s₁ m 0 #[oR r0, oU, oU] [] _
    refine XS.aloadN X0.here hx rfl (hb hby d55_0) rfl rfl ?_
    show own_S p e below s₁ m 1 _ [(.ref r0)] _
    refine st101 _ ?_
    show own_S p e below T101 m 4 _ [(.int 1)] _
    refine XS.istoreN X101.here hx rfl (hb hby d55_4) rfl (l' := #[oR r0, oI 1, oU]) rfl ?_
    refine XS.aloadN X101.here hx rfl (hb hby d55_5) rfl rfl ?_
    show own_S p e below T101 m 6 _ [(.ref r0)] _
    refine st102 _ ?_
    show own_S p e below T102 m 9 _ [(.ref li)] _
    refine XS.iloadN X102.here hx rfl (hb hby d55_9) rfl ?_
    show own_S p e below T102 m 10 _ [(.int 1), (.ref li)] _
    refine st103.trans ?_
    show own_S p e below T103 m 15 _ [(.ref x1)] _
    refine XS.astoreN X103.here hx rfl (hb hby d55_15) rfl rfl (l' := #[oR r0, oI 1, oR x1]) rfl ?_
    refine XS.aloadN X103.here hx rfl (hb hby d55_16) rfl rfl ?_
    refine XS.iloadN X103.here hx rfl (hb hby d55_17) rfl ?_
    refine XS.iconst X103.here hx rfl (hb hby d55_18) ?_
    show own_S p e below T103 m 19 _ [(.int 1), (.int 1), (.ref r0)] _
    refine XS.iadd X103.here hx rfl (hb hby d55_19) rfl ?_
    show own_S p e below T103 m 20 _ [(.int ((1 : Int32) + (1 : Int32))), (.ref r0)] _
    refine reI (by decide : ((1 : Int32) + (1 : Int32)) = (2 : Int32)) ?_
    show own_S p e below T103 m 20 _ [(.int 2), (.ref r0)] _
    refine st104 _ ?_
    show own_S p e below T104 m 23 _ [] _
    refine XS.aloadN X104.here hx rfl (hb hby d55_23) rfl rfl ?_
    show own_S p e below T104 m 24 #[oR r0, oI 1, oR x1] [(.ref x1)] _
    exact retOut X104 hx Bd.returns rfl (Or.inr (Or.inr (Or.inr (Or.inr ⟨rfl, rfl, rfl⟩)))) (hb hby d55_24) hr
  · show Q_ln2_1 Z r0 li x0 x1 em w4 h0 n0 _ T104.heap _
    rw [e104]
    exact ⟨rfl, N104, KK106, (F_list_r0.other W104 (Or.inr (Ne.symm (sn13 hw)))), (F_size_r0.other W104 (Or.inr (Ne.symm (sn14 hw)))), Fw104, (F_isListIterator_r0.other W104 (Or.inr (sn17 hw)))⟩
theorem ef_ln3_0 (m : MethodId) (r0 : Addr) : entryFrame m #[(.ref r0)] 3 = mkF m 0 #[oR r0, oU, oU] [] := by first | (simp [entryFrame, mkF, argsToLocals, Value.category]; done) | rfl
def Q_ln3_0 (Z : State) (r0 : Addr) (li : Addr) (A : Addr) (x0 : Addr) (x1 : Addr) (x2 : Addr) (kA : ClassId) (wa : Value) (w4 : Value) (h0 : Heap) (n0 : Nat) (v : Option Value) (h : Heap) (L : List Loc) : Prop := v = some (.ref x0) ∧ Fr n0 L ∧ (Keep h0 h [r0]) ∧ (Fld Z h r0 kLIT "list" "Ljava/util/List;" (.ref li)) ∧ (Fld Z h r0 kLIT "size" "I" (.int 3)) ∧ (Fld Z h r0 kLIT "cursor" "I" (.int 1)) ∧ (Fld Z h r0 kLIT "isListIterator" "Z" w4)
set_option maxRecDepth 65536 in
set_option maxHeartbeats 40000000 in
theorem rm_ln3_0 (l : Launch) (Z : State) (a0 : Array Value) (hw : own_HW Z a0) (ws : List Jvm.Cond) (r0 : Addr) (li : Addr) (A : Addr) (x0 : Addr) (x1 : Addr) (x2 : Addr) (kA : ClassId) (wa : Value) (w4 : Value) (h0 : Heap) (n0 : Nat) (Z0 : n0 ≤ h0.size) (E_r0 : Exa Z h0 r0 kLIT) (g_r0 : n0 ≤ r0) (F_list_r0 : Fld Z h0 r0 kLIT "list" "Ljava/util/List;" (.ref li)) (F_size_r0 : Fld Z h0 r0 kLIT "size" "I" (.int 3)) (F_cursor_r0 : Fld Z h0 r0 kLIT "cursor" "I" (.int 0)) (F_isListIterator_r0 : Fld Z h0 r0 kLIT "isListIterator" "Z" w4) (E_li : Exa Z h0 li kLN) (F_elements_li : Fld Z h0 li kLN "elements" kOA (.ref A)) (F_allowNulls_li : Fld Z h0 li kLN "allowNulls" "Z" wa) (V_A : Arv Z h0 A kA (.object kOB) (3 : Int32) [(.ref x0), (.ref x1), (.ref x2)] .null) :
    MetFree l (⟨kLIT, "next", "()Ljava/lang/Object;"⟩ : MethodName) (head1 (Jvm.Cond.codeWith (⟨kLIT, "next", "()Ljava/lang/Object;"⟩ : MethodName) jdk_53_method_4_code 3 (some (.object kOB)) [((0 : Nat), (24 : Nat), (25 : Nat), (30 : Nat))] :: ws) ({ frames := 1, cells := 0, slots := 0, locals := 13 } : Room)) (fun a U => a = #[(.ref r0)] ∧ Z.Warmed39 U.vm ∧ U.heap = h0) (fun _ _ _ _ _ => True) (fun _ U o U' => ∃ v L, o = .returned v ∧ Q_ln3_0 Z r0 li A x0 x1 x2 kA wa w4 h0 n0 v U'.heap L ∧ FrameEnd U o U' L ({ frames := 1, cells := 0, slots := 0, locals := 13 } : Room).cells ({ frames := 1, cells := 0, slots := 0, locals := 13 } : Room).slots) := by
  refine MetFree.of_bodySF (plainFor_of_name pn17) hisWith ?_
  intro p e s m args below meth c s₁ Bd hml0 hP hK
  obtain ⟨rfl, hZ, hh⟩ := hP
  have hx := Bd.exec
  have hby := Bd.bytes
  have hml : c.maxLocals = 3 := hml0
  have hown : s.vm.findClass kLIT = some m.cls := findClass_of_methodNamed Bd.named
  have hnm := (name_of_methodNamed Bd.named Bd.method).1
  have X0 : Stand p l e ({ frames := 1, cells := 0, slots := 0, locals := 13 } : Room) s m #[(.ref r0)] below meth c s₁ [] 0 0 := Stand.of_body Bd
  have e0 : s₁.heap = h0 := by rw [← hh, Bd.state]; rfl
  have N0 := Fr.nil n0
  have pre0 : ∀ t, Steps p.tables e below (s₁.setTop (mkF m 0 #[oR r0, oU, oU] [])) t → Steps p.tables e below (s₁.setTop (entryFrame m #[(.ref r0)] 3)) t := fun t k => castTop (ef_ln3_0 m r0) k
  obtain ⟨T101, X101, e101, st101⟩ := getF X0 hx hZ hown (host := "") (Or.inl (own_w hw 397 rfl)) Via.refl e0 F_cursor_r0 (g := (mkF m 1 #[oR r0, oU, oU] [(.ref r0)])) rfl rfl (hb hby d55_1)
  obtain ⟨T102, X102, e102, st102⟩ := getF X101 hx hZ hown (host := "") (Or.inl (own_w hw 393 rfl)) Via.refl e101 F_list_r0 (g := (mkF m 6 #[oR r0, oI 0, oU] [(.ref r0)])) rfl rfl (hb hby d55_6)
  obtain ⟨_, T103, L103, X103, hQ103, st103⟩ := own_cI X102 hx hZ hw hown (b := li) (W := 0) (rm_gN_0 l Z a0 hw [] li A x0 x1 x2 kA wa h0 n0 Z0 F_elements_li F_allowNulls_li V_A) (by decide) (by decide) (by decide) 412 rfl 122 rfl 123 rfl 416 rfl 417 rfl 418 rfl 419 rfl 357 rfl 420 rfl 276 rfl e102 E_li (g := (mkF m 10 #[oR r0, oI 0, oU] [(.int 0), (.ref li)])) rfl (by rw [hml]; rfl) (argsL := [(.int 0)]) (rest := []) (lenOf pd7 rfl) rfl (Nat.le_of_eq rfl) (hb hby d55_10) rfl (cN := 0) rfl (by decide) (sN := 0) rfl (by decide)
  obtain ⟨rfl, Nq103, P103_0⟩ := hQ103
  have N103 := Fr.app N0 Nq103
  obtain ⟨T104, h104, X104, e104, W104, st104⟩ := putF X103 hx hZ hown (host := "") (Or.inl (own_w hw 397 rfl)) Via.refl P103_0 F_cursor_r0 E_r0 (Or.inl (own_w hw 398 rfl)) (own_w hw 382 rfl) (ty := .int) (by decide) rfl rfl (g := (mkF m 20 #[oR r0, oI 0, oR x0] [(.int 1), (.ref r0)])) rfl rfl (hb hby d55_20)
  have Fw104 := F_cursor_r0.same W104
  have N104 := Fr.snoc X104 N103 g_r0
  have ZZ105 : n0 ≤ h104.size := Nat.le_trans Z0 (Nat.le_of_eq W104.size.symm)
  have KK106 : Keep h0 h104 [r0] := (Keep.refl h0 [r0]).wr W104 (Or.inl (List.mem_of_getElem? (i := 0) rfl))
  obtain ⟨fs, hr, hrun, hended, hW, hsame⟩ := X104.leave (v := some (.ref x0)) (fun h => by rw [Bd.returns] at h; cases h)
  refine ⟨_, _, pre0 _ ?_, hrun, hended, _, _, rfl, ?_, ⟨_, rfl⟩, hW, hsame.mono (by decide) (by decide)⟩
  · show own_S p e below s₁ m 0 #[oR r0, oU, oU] [] _
    refine XS.aloadN X0.here hx rfl (hb hby d55_0) rfl rfl ?_
    show own_S p e below s₁ m 1 _ [(.ref r0)] _
    refine st101 _ ?_
    show own_S p e below T101 m 4 _ [(.int 0)] _
    refine XS.istoreN X101.here hx rfl (hb hby d55_4) rfl (l' := #[oR r0, oI 0, oU]) rfl ?_
    refine XS.aloadN X101.here hx rfl (hb hby d55_5) rfl rfl ?_
    show own_S p e below T101 m 6 _ [(.ref r0)] _
    refine st102 _ ?_
    show own_S p e below T102 m 9 _ [(.ref li)] _
    refine XS.iloadN X102.here hx rfl (hb hby d55_9) rfl ?_
    show own_S p e below T102 m 10 _ [(.int 0), (.ref li)] _
    refine st103.trans ?_
    show own_S p e below T103 m 15 _ [(.ref x0)] _
    refine XS.astoreN X103.here hx rfl (hb hby d55_15) rfl rfl (l' := #[oR r0, oI 0, oR x0]) rfl ?_
    refine XS.aloadN X103.here hx rfl (hb hby d55_16) rfl rfl ?_
    refine XS.iloadN X103.here hx rfl (hb hby d55_17) rfl ?_
    refine XS.iconst X103.here hx rfl (hb hby d55_18) ?_
    show own_S p e below T103 m 19 _ [(.int 1), (.int 0), (.ref r0)] _
    refine XS.iadd X103.here hx rfl (hb hby d55_19) rfl ?_
    show own_S p e below T103 m 20 _ [(.int ((0 : Int32) + (1 : Int32))), (.ref r0)] _
    refine reI (by decide : ((0 : Int32) + (1 : Int32)) = (1 : Int32)) ?_
    show own_S p e below T103 m 20 _ [(.int 1), (.ref r0)] _
    refine st104 _ ?_
    show own_S p e below T104 m 23 _ [] _
    refine XS.aloadN X104.here hx rfl (hb hby d55_23) rfl rfl ?_
    show own_S p e below T104 m 24 #[oR r0, oI 0, oR x0] [(.ref x0)] _
    exact retOut X104 hx Bd.returns rfl (Or.inr (Or.inr (Or.inr (Or.inr ⟨rfl, rfl, rfl⟩)))) (hb hby d55_24) hr
  · show Q_ln3_0 Z r0 li A x0 x1 x2 kA wa w4 h0 n0 _ T104.heap _
    rw [e104]
    exact ⟨rfl, N104, KK106, (F_list_r0.other W104 (Or.inr (Ne.symm (sn13 hw)))), (F_size_r0.other W104 (Or.inr (Ne.symm (sn14 hw)))), Fw104, (F_isListIterator_r0.other W104 (Or.inr (sn17 hw)))⟩
theorem ef_ln3_1 (m : MethodId) (r0 : Addr) : entryFrame m #[(.ref r0)] 3 = mkF m 0 #[oR r0, oU, oU] [] := by first | (simp [entryFrame, mkF, argsToLocals, Value.category]; done) | rfl
def Q_ln3_1 (Z : State) (r0 : Addr) (li : Addr) (A : Addr) (x0 : Addr) (x1 : Addr) (x2 : Addr) (kA : ClassId) (wa : Value) (w4 : Value) (h0 : Heap) (n0 : Nat) (v : Option Value) (h : Heap) (L : List Loc) : Prop := v = some (.ref x1) ∧ Fr n0 L ∧ (Keep h0 h [r0]) ∧ (Fld Z h r0 kLIT "list" "Ljava/util/List;" (.ref li)) ∧ (Fld Z h r0 kLIT "size" "I" (.int 3)) ∧ (Fld Z h r0 kLIT "cursor" "I" (.int 2)) ∧ (Fld Z h r0 kLIT "isListIterator" "Z" w4)
set_option maxRecDepth 65536 in
set_option maxHeartbeats 40000000 in
theorem rm_ln3_1 (l : Launch) (Z : State) (a0 : Array Value) (hw : own_HW Z a0) (ws : List Jvm.Cond) (r0 : Addr) (li : Addr) (A : Addr) (x0 : Addr) (x1 : Addr) (x2 : Addr) (kA : ClassId) (wa : Value) (w4 : Value) (h0 : Heap) (n0 : Nat) (Z0 : n0 ≤ h0.size) (E_r0 : Exa Z h0 r0 kLIT) (g_r0 : n0 ≤ r0) (F_list_r0 : Fld Z h0 r0 kLIT "list" "Ljava/util/List;" (.ref li)) (F_size_r0 : Fld Z h0 r0 kLIT "size" "I" (.int 3)) (F_cursor_r0 : Fld Z h0 r0 kLIT "cursor" "I" (.int 1)) (F_isListIterator_r0 : Fld Z h0 r0 kLIT "isListIterator" "Z" w4) (E_li : Exa Z h0 li kLN) (F_elements_li : Fld Z h0 li kLN "elements" kOA (.ref A)) (F_allowNulls_li : Fld Z h0 li kLN "allowNulls" "Z" wa) (V_A : Arv Z h0 A kA (.object kOB) (3 : Int32) [(.ref x0), (.ref x1), (.ref x2)] .null) :
    MetFree l (⟨kLIT, "next", "()Ljava/lang/Object;"⟩ : MethodName) (head1 (Jvm.Cond.codeWith (⟨kLIT, "next", "()Ljava/lang/Object;"⟩ : MethodName) jdk_53_method_4_code 3 (some (.object kOB)) [((0 : Nat), (24 : Nat), (25 : Nat), (30 : Nat))] :: ws) ({ frames := 1, cells := 0, slots := 0, locals := 13 } : Room)) (fun a U => a = #[(.ref r0)] ∧ Z.Warmed39 U.vm ∧ U.heap = h0) (fun _ _ _ _ _ => True) (fun _ U o U' => ∃ v L, o = .returned v ∧ Q_ln3_1 Z r0 li A x0 x1 x2 kA wa w4 h0 n0 v U'.heap L ∧ FrameEnd U o U' L ({ frames := 1, cells := 0, slots := 0, locals := 13 } : Room).cells ({ frames := 1, cells := 0, slots := 0, locals := 13 } : Room).slots) := by
  refine MetFree.of_bodySF (plainFor_of_name pn17) hisWith ?_
  intro p e s m args below meth c s₁ Bd hml0 hP hK
  obtain ⟨rfl, hZ, hh⟩ := hP
  have hx := Bd.exec
  have hby := Bd.bytes
  have hml : c.maxLocals = 3 := hml0
  have hown : s.vm.findClass kLIT = some m.cls := findClass_of_methodNamed Bd.named
  have hnm := (name_of_methodNamed Bd.named Bd.method).1
  have X0 : Stand p l e ({ frames := 1, cells := 0, slots := 0, locals := 13 } : Room) s m #[(.ref r0)] below meth c s₁ [] 0 0 := Stand.of_body Bd
  have e0 : s₁.heap = h0 := by rw [← hh, Bd.state]; rfl
  have N0 := Fr.nil n0
  have pre0 : ∀ t, Steps p.tables e below (s₁.setTop (mkF m 0 #[oR r0, oU, oU] [])) t → Steps p.tables e below (s₁.setTop (entryFrame m #[(.ref r0)] 3)) t := fun t k => castTop (ef_ln3_1 m r0) k
  obtain ⟨T101, X101, e101, st101⟩ := getF X0 hx hZ hown (host := "") (Or.inl (own_w hw 397 rfl)) Via.refl e0 F_cursor_r0 (g := (mkF m 1 #[oR r0, oU, oU] [(.ref r0)])) rfl rfl (hb hby d55_1)
  obtain ⟨T102, X102, e102, st102⟩ := getF X101 hx hZ hown (host := "") (Or.inl (own_w hw 393 rfl)) Via.refl e101 F_list_r0 (g := (mkF m 6 #[oR r0, oI 1, oU] [(.ref r0)])) rfl rfl (hb hby d55_6)
  obtain ⟨_, T103, L103, X103, hQ103, st103⟩ := own_cI X102 hx hZ hw hown (b := li) (W := 0) (rm_gN_1 l Z a0 hw [] li A x0 x1 x2 kA wa h0 n0 Z0 F_elements_li F_allowNulls_li V_A) (by decide) (by decide) (by decide) 412 rfl 122 rfl 123 rfl 416 rfl 417 rfl 418 rfl 419 rfl 357 rfl 420 rfl 276 rfl e102 E_li (g := (mkF m 10 #[oR r0, oI 1, oU] [(.int 1), (.ref li)])) rfl (by rw [hml]; rfl) (argsL := [(.int 1)]) (rest := []) (lenOf pd7 rfl) rfl (Nat.le_of_eq rfl) (hb hby d55_10) rfl (cN := 0) rfl (by decide) (sN := 0) rfl (by decide)
  obtain ⟨rfl, Nq103, P103_0⟩ := hQ103
  have N103 := Fr.app N0 Nq103
  obtain ⟨T104, h104, X104, e104, W104, st104⟩ := putF X103 hx hZ hown (host := "") (Or.inl (own_w hw 397 rfl)) Via.refl P103_0 F_cursor_r0 E_r0 (Or.inl (own_w hw 398 rfl)) (own_w hw 382 rfl) (ty := .int) (by decide) rfl rfl (g := (mkF m 20 #[oR r0, oI 1, oR x1] [(.int 2), (.ref r0)])) rfl rfl (hb hby d55_20)
  have Fw104 := F_cursor_r0.same W104
  have N104 := Fr.snoc X104 N103 g_r0
  have ZZ105 : n0 ≤ h104.size := Nat.le_trans Z0 (Nat.le_of_eq W104.size.symm)
  have KK106 : Keep h0 h104 [r0] := (Keep.refl h0 [r0]).wr W104 (Or.inl (List.mem_of_getElem? (i := 0) rfl))
  obtain ⟨fs, hr, hrun, hended, hW, hsame⟩ := X104.leave (v := some (.ref x1)) (fun h => by rw [Bd.returns] at h; cases h)
  refine ⟨_, _, pre0 _ ?_, hrun, hended, _, _, rfl, ?_, ⟨_, rfl⟩, hW, hsame.mono (by decide) (by decide)⟩
  · show own_S p e below s₁ m 0 #[oR r0, oU, oU] [] _
    refine XS.aloadN X0.here hx rfl (hb hby d55_0) rfl rfl ?_
    show own_S p e below s₁ m 1 _ [(.ref r0)] _
    refine st101 _ ?_
    show own_S p e below T101 m 4 _ [(.int 1)] _
    refine XS.istoreN X101.here hx rfl (hb hby d55_4) rfl (l' := #[oR r0, oI 1, oU]) rfl ?_
    refine XS.aloadN X101.here hx rfl (hb hby d55_5) rfl rfl ?_
    show own_S p e below T101 m 6 _ [(.ref r0)] _
    refine st102 _ ?_
    show own_S p e below T102 m 9 _ [(.ref li)] _
    refine XS.iloadN X102.here hx rfl (hb hby d55_9) rfl ?_
    show own_S p e below T102 m 10 _ [(.int 1), (.ref li)] _
    refine st103.trans ?_
    show own_S p e below T103 m 15 _ [(.ref x1)] _
    refine XS.astoreN X103.here hx rfl (hb hby d55_15) rfl rfl (l' := #[oR r0, oI 1, oR x1]) rfl ?_
    refine XS.aloadN X103.here hx rfl (hb hby d55_16) rfl rfl ?_
    refine XS.iloadN X103.here hx rfl (hb hby d55_17) rfl ?_
    refine XS.iconst X103.here hx rfl (hb hby d55_18) ?_
    show own_S p e below T103 m 19 _ [(.int 1), (.int 1), (.ref r0)] _
    refine XS.iadd X103.here hx rfl (hb hby d55_19) rfl ?_
    show own_S p e below T103 m 20 _ [(.int ((1 : Int32) + (1 : Int32))), (.ref r0)] _
    refine reI (by decide : ((1 : Int32) + (1 : Int32)) = (2 : Int32)) ?_
    show own_S p e below T103 m 20 _ [(.int 2), (.ref r0)] _
    refine st104 _ ?_
    show own_S p e below T104 m 23 _ [] _
    refine XS.aloadN X104.here hx rfl (hb hby d55_23) rfl rfl ?_
    show own_S p e below T104 m 24 #[oR r0, oI 1, oR x1] [(.ref x1)] _
    exact retOut X104 hx Bd.returns rfl (Or.inr (Or.inr (Or.inr (Or.inr ⟨rfl, rfl, rfl⟩)))) (hb hby d55_24) hr
  · show Q_ln3_1 Z r0 li A x0 x1 x2 kA wa w4 h0 n0 _ T104.heap _
    rw [e104]
    exact ⟨rfl, N104, KK106, (F_list_r0.other W104 (Or.inr (Ne.symm (sn13 hw)))), (F_size_r0.other W104 (Or.inr (Ne.symm (sn14 hw)))), Fw104, (F_isListIterator_r0.other W104 (Or.inr (sn17 hw)))⟩
theorem ef_ln3_2 (m : MethodId) (r0 : Addr) : entryFrame m #[(.ref r0)] 3 = mkF m 0 #[oR r0, oU, oU] [] := by first | (simp [entryFrame, mkF, argsToLocals, Value.category]; done) | rfl
def Q_ln3_2 (Z : State) (r0 : Addr) (li : Addr) (A : Addr) (x0 : Addr) (x1 : Addr) (x2 : Addr) (kA : ClassId) (wa : Value) (w4 : Value) (h0 : Heap) (n0 : Nat) (v : Option Value) (h : Heap) (L : List Loc) : Prop := v = some (.ref x2) ∧ Fr n0 L ∧ (Keep h0 h [r0]) ∧ (Fld Z h r0 kLIT "list" "Ljava/util/List;" (.ref li)) ∧ (Fld Z h r0 kLIT "size" "I" (.int 3)) ∧ (Fld Z h r0 kLIT "cursor" "I" (.int 3)) ∧ (Fld Z h r0 kLIT "isListIterator" "Z" w4)
set_option maxRecDepth 65536 in
set_option maxHeartbeats 40000000 in
theorem rm_ln3_2 (l : Launch) (Z : State) (a0 : Array Value) (hw : own_HW Z a0) (ws : List Jvm.Cond) (r0 : Addr) (li : Addr) (A : Addr) (x0 : Addr) (x1 : Addr) (x2 : Addr) (kA : ClassId) (wa : Value) (w4 : Value) (h0 : Heap) (n0 : Nat) (Z0 : n0 ≤ h0.size) (E_r0 : Exa Z h0 r0 kLIT) (g_r0 : n0 ≤ r0) (F_list_r0 : Fld Z h0 r0 kLIT "list" "Ljava/util/List;" (.ref li)) (F_size_r0 : Fld Z h0 r0 kLIT "size" "I" (.int 3)) (F_cursor_r0 : Fld Z h0 r0 kLIT "cursor" "I" (.int 2)) (F_isListIterator_r0 : Fld Z h0 r0 kLIT "isListIterator" "Z" w4) (E_li : Exa Z h0 li kLN) (F_elements_li : Fld Z h0 li kLN "elements" kOA (.ref A)) (F_allowNulls_li : Fld Z h0 li kLN "allowNulls" "Z" wa) (V_A : Arv Z h0 A kA (.object kOB) (3 : Int32) [(.ref x0), (.ref x1), (.ref x2)] .null) :
    MetFree l (⟨kLIT, "next", "()Ljava/lang/Object;"⟩ : MethodName) (head1 (Jvm.Cond.codeWith (⟨kLIT, "next", "()Ljava/lang/Object;"⟩ : MethodName) jdk_53_method_4_code 3 (some (.object kOB)) [((0 : Nat), (24 : Nat), (25 : Nat), (30 : Nat))] :: ws) ({ frames := 1, cells := 0, slots := 0, locals := 13 } : Room)) (fun a U => a = #[(.ref r0)] ∧ Z.Warmed39 U.vm ∧ U.heap = h0) (fun _ _ _ _ _ => True) (fun _ U o U' => ∃ v L, o = .returned v ∧ Q_ln3_2 Z r0 li A x0 x1 x2 kA wa w4 h0 n0 v U'.heap L ∧ FrameEnd U o U' L ({ frames := 1, cells := 0, slots := 0, locals := 13 } : Room).cells ({ frames := 1, cells := 0, slots := 0, locals := 13 } : Room).slots) := by
  refine MetFree.of_bodySF (plainFor_of_name pn17) hisWith ?_
  intro p e s m args below meth c s₁ Bd hml0 hP hK
  obtain ⟨rfl, hZ, hh⟩ := hP
  have hx := Bd.exec
  have hby := Bd.bytes
  have hml : c.maxLocals = 3 := hml0
  have hown : s.vm.findClass kLIT = some m.cls := findClass_of_methodNamed Bd.named
  have hnm := (name_of_methodNamed Bd.named Bd.method).1
  have X0 : Stand p l e ({ frames := 1, cells := 0, slots := 0, locals := 13 } : Room) s m #[(.ref r0)] below meth c s₁ [] 0 0 := Stand.of_body Bd
  have e0 : s₁.heap = h0 := by rw [← hh, Bd.state]; rfl
  have N0 := Fr.nil n0
  have pre0 : ∀ t, Steps p.tables e below (s₁.setTop (mkF m 0 #[oR r0, oU, oU] [])) t → Steps p.tables e below (s₁.setTop (entryFrame m #[(.ref r0)] 3)) t := fun t k => castTop (ef_ln3_2 m r0) k
  obtain ⟨T101, X101, e101, st101⟩ := getF X0 hx hZ hown (host := "") (Or.inl (own_w hw 397 rfl)) Via.refl e0 F_cursor_r0 (g := (mkF m 1 #[oR r0, oU, oU] [(.ref r0)])) rfl rfl (hb hby d55_1)
  obtain ⟨T102, X102, e102, st102⟩ := getF X101 hx hZ hown (host := "") (Or.inl (own_w hw 393 rfl)) Via.refl e101 F_list_r0 (g := (mkF m 6 #[oR r0, oI 2, oU] [(.ref r0)])) rfl rfl (hb hby d55_6)
  obtain ⟨_, T103, L103, X103, hQ103, st103⟩ := own_cI X102 hx hZ hw hown (b := li) (W := 0) (rm_gN_2 l Z a0 hw [] li A x0 x1 x2 kA wa h0 n0 Z0 F_elements_li F_allowNulls_li V_A) (by decide) (by decide) (by decide) 412 rfl 122 rfl 123 rfl 416 rfl 417 rfl 418 rfl 419 rfl 357 rfl 420 rfl 276 rfl e102 E_li (g := (mkF m 10 #[oR r0, oI 2, oU] [(.int 2), (.ref li)])) rfl (by rw [hml]; rfl) (argsL := [(.int 2)]) (rest := []) (lenOf pd7 rfl) rfl (Nat.le_of_eq rfl) (hb hby d55_10) rfl (cN := 0) rfl (by decide) (sN := 0) rfl (by decide)
  obtain ⟨rfl, Nq103, P103_0⟩ := hQ103
  have N103 := Fr.app N0 Nq103
  obtain ⟨T104, h104, X104, e104, W104, st104⟩ := putF X103 hx hZ hown (host := "") (Or.inl (own_w hw 397 rfl)) Via.refl P103_0 F_cursor_r0 E_r0 (Or.inl (own_w hw 398 rfl)) (own_w hw 382 rfl) (ty := .int) (by decide) rfl rfl (g := (mkF m 20 #[oR r0, oI 2, oR x2] [(.int 3), (.ref r0)])) rfl rfl (hb hby d55_20)
  have Fw104 := F_cursor_r0.same W104
  have N104 := Fr.snoc X104 N103 g_r0
  have ZZ105 : n0 ≤ h104.size := Nat.le_trans Z0 (Nat.le_of_eq W104.size.symm)
  have KK106 : Keep h0 h104 [r0] := (Keep.refl h0 [r0]).wr W104 (Or.inl (List.mem_of_getElem? (i := 0) rfl))
  obtain ⟨fs, hr, hrun, hended, hW, hsame⟩ := X104.leave (v := some (.ref x2)) (fun h => by rw [Bd.returns] at h; cases h)
  refine ⟨_, _, pre0 _ ?_, hrun, hended, _, _, rfl, ?_, ⟨_, rfl⟩, hW, hsame.mono (by decide) (by decide)⟩
  · show own_S p e below s₁ m 0 #[oR r0, oU, oU] [] _
    refine XS.aloadN X0.here hx rfl (hb hby d55_0) rfl rfl ?_
    show own_S p e below s₁ m 1 _ [(.ref r0)] _
    refine st101 _ ?_
    show own_S p e below T101 m 4 _ [(.int 2)] _
    refine XS.istoreN X101.here hx rfl (hb hby d55_4) rfl (l' := #[oR r0, oI 2, oU]) rfl ?_
    refine XS.aloadN X101.here hx rfl (hb hby d55_5) rfl rfl ?_
    show own_S p e below T101 m 6 _ [(.ref r0)] _
    refine st102 _ ?_
    show own_S p e below T102 m 9 _ [(.ref li)] _
    refine XS.iloadN X102.here hx rfl (hb hby d55_9) rfl ?_
    show own_S p e below T102 m 10 _ [(.int 2), (.ref li)] _
    refine st103.trans ?_
    show own_S p e below T103 m 15 _ [(.ref x2)] _
    refine XS.astoreN X103.here hx rfl (hb hby d55_15) rfl rfl (l' := #[oR r0, oI 2, oR x2]) rfl ?_
    refine XS.aloadN X103.here hx rfl (hb hby d55_16) rfl rfl ?_
    refine XS.iloadN X103.here hx rfl (hb hby d55_17) rfl ?_
    refine XS.iconst X103.here hx rfl (hb hby d55_18) ?_
    show own_S p e below T103 m 19 _ [(.int 1), (.int 2), (.ref r0)] _
    refine XS.iadd X103.here hx rfl (hb hby d55_19) rfl ?_
    show own_S p e below T103 m 20 _ [(.int ((2 : Int32) + (1 : Int32))), (.ref r0)] _
    refine reI (by decide : ((2 : Int32) + (1 : Int32)) = (3 : Int32)) ?_
    show own_S p e below T103 m 20 _ [(.int 3), (.ref r0)] _
    refine st104 _ ?_
    show own_S p e below T104 m 23 _ [] _
    refine XS.aloadN X104.here hx rfl (hb hby d55_23) rfl rfl ?_
    show own_S p e below T104 m 24 #[oR r0, oI 2, oR x2] [(.ref x2)] _
    exact retOut X104 hx Bd.returns rfl (Or.inr (Or.inr (Or.inr (Or.inr ⟨rfl, rfl, rfl⟩)))) (hb hby d55_24) hr
  · show Q_ln3_2 Z r0 li A x0 x1 x2 kA wa w4 h0 n0 _ T104.heap _
    rw [e104]
    exact ⟨rfl, N104, KK106, (F_list_r0.other W104 (Or.inr (Ne.symm (sn13 hw)))), (F_size_r0.other W104 (Or.inr (Ne.symm (sn14 hw)))), Fw104, (F_isListIterator_r0.other W104 (Or.inr (sn17 hw)))⟩
theorem d47_0 : decode prog_29_method_7_code 0 = .ok (.aload_n 0, 1) := by decide +kernel
theorem d47_1 : decode prog_29_method_7_code 1 = .ok (.getfield 85, 3) := by decide +kernel
theorem d47_4 : decode prog_29_method_7_code 4 = .ok (.areturn, 1) := by decide +kernel
theorem efm47 (m : MethodId) (r0 : Addr) : entryFrame m #[(.ref r0)] 1 = mkF m 0 #[oR r0] [] := by first | (simp [entryFrame, mkF, argsToLocals, Value.category]; done) | rfl
def Qm47 (Z : State) (r0 : Addr) (LL : Addr) (wn : Value) (h0 : Heap) (n0 : Nat) (v : Option Value) (h : Heap) (L : List Loc) : Prop := v = some (.ref LL) ∧ Fr n0 L ∧ (h = h0)
set_option maxRecDepth 65536 in
set_option maxHeartbeats 40000000 in
theorem rmm47 (l : Launch) (Z : State) (a0 : Array Value) (hw : own_HW Z a0) (ws : List Jvm.Cond) (r0 : Addr) (LL : Addr) (wn : Value) (h0 : Heap) (n0 : Nat) (Z0 : n0 ≤ h0.size) (F_name_r0 : Fld Z h0 r0 kMO "name" "Ljava/lang/String;" wn) (F_vectors_r0 : Fld Z h0 r0 kMO "vectors" "Ljava/util/List;" (.ref LL)) :
    MetFree l (⟨kMO, "vectors", "()Ljava/util/List;"⟩ : MethodName) (head1 (Jvm.Cond.code (⟨kMO, "vectors", "()Ljava/util/List;"⟩ : MethodName) prog_29_method_7_code 1 (some (.object "java/util/List")) :: ws) ({ frames := 0, cells := 0, slots := 0, locals := 0 } : Room)) (fun a U => a = #[(.ref r0)] ∧ Z.Warmed39 U.vm ∧ U.heap = h0) (fun _ _ _ _ _ => True) (fun _ U o U' => ∃ v L, o = .returned v ∧ Qm47 Z r0 LL wn h0 n0 v U'.heap L ∧ FrameEnd U o U' L ({ frames := 0, cells := 0, slots := 0, locals := 0 } : Room).cells ({ frames := 0, cells := 0, slots := 0, locals := 0 } : Room).slots) := by
  refine MetFree.of_bodySF (plainFor_of_name pn16) hisR ?_
  intro p e s m args below meth c s₁ Bd hml0 hP hK
  obtain ⟨rfl, hZ, hh⟩ := hP
  have hx := Bd.exec
  have hby := Bd.bytes
  have hml : c.maxLocals = 1 := hml0
  have hown : s.vm.findClass kMO = some m.cls := findClass_of_methodNamed Bd.named
  have hnm := (name_of_methodNamed Bd.named Bd.method).1
  have X0 : Stand p l e ({ frames := 0, cells := 0, slots := 0, locals := 0 } : Room) s m #[(.ref r0)] below meth c s₁ [] 0 0 := Stand.of_body Bd
  have e0 : s₁.heap = h0 := by rw [← hh, Bd.state]; rfl
  have N0 := Fr.nil n0
  have pre0 : ∀ t, Steps p.tables e below (s₁.setTop (mkF m 0 #[oR r0] [])) t → Steps p.tables e below (s₁.setTop (entryFrame m #[(.ref r0)] 1)) t := fun t k => castTop (efm47 m r0) k
  obtain ⟨T101, X101, e101, st101⟩ := getF X0 hx hZ hown (host := "") (Or.inl (own_w hw 319 rfl)) Via.refl e0 F_vectors_r0 (g := (mkF m 1 #[oR r0] [(.ref r0)])) rfl rfl (hb hby d47_1)
  obtain ⟨fs, hr, hrun, hended, hW, hsame⟩ := X101.leave (v := some (.ref LL)) (fun h => by rw [Bd.returns] at h; cases h)
  refine ⟨_, _, pre0 _ ?_, hrun, hended, _, _, rfl, ?_, ⟨_, rfl⟩, hW, hsame.mono (by decide) (by decide)⟩
  · show own_S p e below s₁ m 0 #[oR r0] [] _
    refine XS.aloadN X0.here hx rfl (hb hby d47_0) rfl rfl ?_
    show own_S p e below s₁ m 1 _ [(.ref r0)] _
    refine st101 _ ?_
    show own_S p e below T101 m 4 _ [(.ref LL)] _
    exact retOut X101 hx Bd.returns rfl (Or.inr (Or.inr (Or.inr (Or.inr ⟨rfl, rfl, rfl⟩)))) (hb hby d47_4) hr
  · show Qm47 Z r0 LL wn h0 n0 _ T101.heap _
    rw [e101]
    exact ⟨rfl, N0, rfl⟩
theorem d51_0 : decode k51 0 = .ok (.lload_n 0, 1) := by decide +kernel
theorem d51_1 : decode k51 1 = .ok (.l2i, 1) := by decide +kernel
theorem d51_2 : decode k51 2 = .ok (.i2l, 1) := by decide +kernel
theorem d51_3 : decode k51 3 = .ok (.lload_n 0, 1) := by decide +kernel
theorem d51_4 : decode k51 4 = .ok (.lcmp, 1) := by decide +kernel
theorem d51_5 : decode k51 5 = .ok (.ifCond .eq 13, 3) := by decide +kernel
theorem d51_18 : decode k51 18 = .ok (.lload_n 0, 1) := by decide +kernel
theorem d51_19 : decode k51 19 = .ok (.l2i, 1) := by decide +kernel
theorem d51_20 : decode k51 20 = .ok (.ireturn, 1) := by decide +kernel
theorem efm51 (m : MethodId)  : entryFrame m #[(.long (12 : Int64))] 2 = mkF m 0 #[oJ (12 : Int64), oV] [] := by first | (simp [entryFrame, mkF, argsToLocals, Value.category]; done) | rfl
def Qm51 (Z : State)  (h0 : Heap) (n0 : Nat) (v : Option Value) (h : Heap) (L : List Loc) : Prop := v = some (.int 12) ∧ Fr n0 L ∧ (h = h0)
set_option maxRecDepth 65536 in
set_option maxHeartbeats 40000000 in
theorem rmm51 (l : Launch) (Z : State) (a0 : Array Value) (hw : own_HW Z a0) (ws : List Jvm.Cond)  (h0 : Heap) (n0 : Nat) (Z0 : n0 ≤ h0.size)  :
    MetFree l (⟨"java/lang/Math", "toIntExact", "(J)I"⟩ : MethodName) (head1 (Jvm.Cond.code (⟨"java/lang/Math", "toIntExact", "(J)I"⟩ : MethodName) jdk_29_method_43_code 2 (some .int) :: ws) ({ frames := 0, cells := 0, slots := 0, locals := 0 } : Room)) (fun a U => a = #[(.long (12 : Int64))] ∧ Z.Warmed39 U.vm ∧ U.heap = h0) (fun _ _ _ _ _ => True) (fun _ U o U' => ∃ v L, o = .returned v ∧ Qm51 Z  h0 n0 v U'.heap L ∧ FrameEnd U o U' L ({ frames := 0, cells := 0, slots := 0, locals := 0 } : Room).cells ({ frames := 0, cells := 0, slots := 0, locals := 0 } : Room).slots) := by
  refine MetFree.of_bodySF (Jvm.Free.JP.mathPlain rfl (by decide +kernel)) hisR ?_
  intro p e s m args below meth c s₁ Bd hml0 hP hK
  obtain ⟨rfl, hZ, hh⟩ := hP
  have hx := Bd.exec
  have hby := Bd.bytes
  have hml : c.maxLocals = 2 := hml0
  have hown : s.vm.findClass "java/lang/Math" = some m.cls := findClass_of_methodNamed Bd.named
  have hnm := (name_of_methodNamed Bd.named Bd.method).1
  have X0 : Stand p l e ({ frames := 0, cells := 0, slots := 0, locals := 0 } : Room) s m #[(.long (12 : Int64))] below meth c s₁ [] 0 0 := Stand.of_body Bd
  have e0 : s₁.heap = h0 := by rw [← hh, Bd.state]; rfl
  have N0 := Fr.nil n0
  have pre0 : ∀ t, Steps p.tables e below (s₁.setTop (mkF m 0 #[oJ (12 : Int64), oV] [])) t → Steps p.tables e below (s₁.setTop (entryFrame m #[(.long (12 : Int64))] 2)) t := fun t k => castTop (efm51 m ) k
  obtain ⟨fs, hr, hrun, hended, hW, hsame⟩ := X0.leave (v := some (.int 12)) (fun h => by rw [Bd.returns] at h; cases h)
  refine ⟨_, _, pre0 _ ?_, hrun, hended, _, _, rfl, ?_, ⟨_, rfl⟩, hW, hsame.mono (by decide) (by decide)⟩
  · show own_S p e below s₁ m 0 #[oJ (12 : Int64), oV] [] _
    refine XS.lloadN X0.here hx rfl (hb hby d51_0) rfl ?_
    show own_S p e below s₁ m 1 _ [(.long (12 : Int64))] _
    refine XS.l2i X0.here hx rfl (hb hby d51_1) rfl ?_
    show own_S p e below s₁ m 2 _ [(.int ((12 : Int64).toInt32))] _
    refine XS.i2l X0.here hx rfl (hb hby d51_2) rfl ?_
    show own_S p e below s₁ m 3 _ [(.long (((12 : Int64).toInt32).toInt64))] _
    refine XS.lloadN X0.here hx rfl (hb hby d51_3) rfl ?_
    show own_S p e below s₁ m 4 _ [(.long (12 : Int64)), (.long (((12 : Int64).toInt32).toInt64))] _
    refine XS.lcmp X0.here hx rfl (hb hby d51_4) rfl ?_
    show own_S p e below s₁ m 5 _ [(.int (lcmpW (((12 : Int64).toInt32).toInt64) (12 : Int64)))] _
    refine XS.ifYes X0.here hx rfl (pc0 := 5) (pc' := 18) rfl (hb hby d51_5) rfl ((if0 _ _).trans (teq (by decide : (lcmpW (((12 : Int64).toInt32).toInt64) (12 : Int64)) = (0 : Int32))).1) (by decide) (by decide) ?_
    refine XS.lloadN X0.here hx rfl (hb hby d51_18) rfl ?_
    show own_S p e below s₁ m 19 #[oJ (12 : Int64), oV] [(.long (12 : Int64))] _
    refine XS.l2i X0.here hx rfl (hb hby d51_19) rfl ?_
    show own_S p e below s₁ m 20 _ [(.int ((12 : Int64).toInt32))] _
    refine reI ((by decide) : ((12 : Int64).toInt32) = (12 : Int32)) ?_
    show own_S p e below s₁ m 20 _ [(.int 12)] _
    exact retOut X0 hx Bd.returns rfl (Or.inl ⟨rfl, Or.inl rfl, _, rfl⟩) (hb hby d51_20) hr
  · show Qm51 Z  h0 n0 _ s₁.heap _
    rw [e0]
    exact ⟨rfl, N0, rfl⟩
theorem d57_0 : decode k57 0 = .ok (.dconst 0, 1) := by decide +kernel
theorem d57_1 : decode k57 1 = .ok (.dstore_n 2, 1) := by decide +kernel
theorem d57_2 : decode k57 2 = .ok (.iconst 0, 1) := by decide +kernel
theorem d57_3 : decode k57 3 = .ok (.istore 4, 2) := by decide +kernel
theorem d57_5 : decode k57 5 = .ok (.iload 4, 2) := by decide +kernel
theorem d57_7 : decode k57 7 = .ok (.aload_n 0, 1) := by decide +kernel
theorem d57_8 : decode k57 8 = .ok (.getfield 36, 3) := by decide +kernel
theorem d57_11 : decode k57 11 = .ok (.if_icmp .ge 26, 3) := by decide +kernel
theorem d57_14 : decode k57 14 = .ok (.dload_n 2, 1) := by decide +kernel
theorem d57_15 : decode k57 15 = .ok (.aload_n 0, 1) := by decide +kernel
theorem d57_16 : decode k57 16 = .ok (.getfield 47, 3) := by decide +kernel
theorem d57_19 : decode k57 19 = .ok (.iload_n 1, 1) := by decide +kernel
theorem d57_20 : decode k57 20 = .ok (.aload_n 0, 1) := by decide +kernel
theorem d57_21 : decode k57 21 = .ok (.getfield 36, 3) := by decide +kernel
theorem d57_24 : decode k57 24 = .ok (.imul, 1) := by decide +kernel
theorem d57_25 : decode k57 25 = .ok (.iload 4, 2) := by decide +kernel
theorem d57_27 : decode k57 27 = .ok (.iadd, 1) := by decide +kernel
theorem d57_28 : decode k57 28 = .ok (.daload, 1) := by decide +kernel
theorem d57_29 : decode k57 29 = .ok (.dadd, 1) := by decide +kernel
theorem d57_30 : decode k57 30 = .ok (.dstore_n 2, 1) := by decide +kernel
theorem d57_31 : decode k57 31 = .ok (.iinc 4 1, 3) := by decide +kernel
theorem d57_34 : decode k57 34 = .ok (.goto (-29), 3) := by decide +kernel
theorem d57_37 : decode k57 37 = .ok (.dload_n 2, 1) := by decide +kernel
theorem d57_38 : decode k57 38 = .ok (.dreturn, 1) := by decide +kernel
theorem pn18 : plainName kIV = true := by first | (simp [plainName, overriddenIn]; done) | decide +kernel
theorem efm57 (m : MethodId) (r0 : Addr) (p1 : Int32) : entryFrame m #[(.ref r0), (.int p1)] 5 = mkF m 0 #[oR r0, oI p1, oU, oU, oU] [] := by first | (simp [entryFrame, mkF, argsToLocals, Value.category]; done) | rfl
def Qm57 (Z : State) (r0 : Addr) (p1 : Int32) (va : Addr) (kva : ClassId) (vs : List Value) (y0 : UInt64) (y1 : UInt64) (y2 : UInt64) (h0 : Heap) (n0 : Nat) (v : Option Value) (h : Heap) (L : List Loc) : Prop := v = some (.double (FP.dadd (FP.dadd (FP.dadd (0 : UInt64) y0) y1) y2)) ∧ Fr n0 L ∧ (h = h0)
set_option maxRecDepth 65536 in
set_option maxHeartbeats 40000000 in
theorem rmm57 (l : Launch) (Z : State) (a0 : Array Value) (hw : own_HW Z a0) (ws : List Jvm.Cond) (r0 : Addr) (p1 : Int32) (va : Addr) (kva : ClassId) (vs : List Value) (y0 : UInt64) (y1 : UInt64) (y2 : UInt64) (h0 : Heap) (n0 : Nat) (Z0 : n0 ≤ h0.size) (E_r0 : Exa Z h0 r0 kIV) (F_dimension_r0 : Fld Z h0 r0 kIV "dimension" "I" (.int 3)) (F_values_r0 : Fld Z h0 r0 kIV "values" "[D" (.ref va)) (V_va : Arv Z h0 va kva .double (12 : Int32) vs (.double 0)) (hi0 : ¬ ((p1 * (3 : Int32)) + (0 : Int32)) < (0 : Int32) ∧ ((p1 * (3 : Int32)) + (0 : Int32)) < (12 : Int32)) (hg0 : vs.getD (((p1 * (3 : Int32)) + (0 : Int32))).toNatClampNeg (.double 0) = .double y0) (hi1 : ¬ ((p1 * (3 : Int32)) + (1 : Int32)) < (0 : Int32) ∧ ((p1 * (3 : Int32)) + (1 : Int32)) < (12 : Int32)) (hg1 : vs.getD (((p1 * (3 : Int32)) + (1 : Int32))).toNatClampNeg (.double 0) = .double y1) (hi2 : ¬ ((p1 * (3 : Int32)) + (2 : Int32)) < (0 : Int32) ∧ ((p1 * (3 : Int32)) + (2 : Int32)) < (12 : Int32)) (hg2 : vs.getD (((p1 * (3 : Int32)) + (2 : Int32))).toNatClampNeg (.double 0) = .double y2) (hs0 : NoNaN64 (FP.dadd (0 : UInt64) y0)) (hs1 : NoNaN64 (FP.dadd (FP.dadd (0 : UInt64) y0) y1)) (hs2 : NoNaN64 (FP.dadd (FP.dadd (FP.dadd (0 : UInt64) y0) y1) y2)) :
    MetFree l (⟨kIV, "sumOf", "(I)D"⟩ : MethodName) (head1 (Jvm.Cond.code (⟨kIV, "sumOf", "(I)D"⟩ : MethodName) prog_26_method_14_code 5 (some .double) :: ws) ({ frames := 0, cells := 0, slots := 0, locals := 0 } : Room)) (fun a U => a = #[(.ref r0), (.int p1)] ∧ Z.Warmed39 U.vm ∧ U.heap = h0) (fun _ _ _ _ _ => True) (fun _ U o U' => ∃ v L, o = .returned v ∧ Qm57 Z r0 p1 va kva vs y0 y1 y2 h0 n0 v U'.heap L ∧ FrameEnd U o U' L ({ frames := 0, cells := 0, slots := 0, locals := 0 } : Room).cells ({ frames := 0, cells := 0, slots := 0, locals := 0 } : Room).slots) := by
  refine MetFree.of_bodySF (plainFor_of_name pn18) hisR ?_
  intro p e s m args below meth c s₁ Bd hml0 hP hK
  obtain ⟨rfl, hZ, hh⟩ := hP
  have hx := Bd.exec
  have hby := Bd.bytes
  have hml : c.maxLocals = 5 := hml0
  have hown : s.vm.findClass kIV = some m.cls := findClass_of_methodNamed Bd.named
  have hnm := (name_of_methodNamed Bd.named Bd.method).1
  have X0 : Stand p l e ({ frames := 0, cells := 0, slots := 0, locals := 0 } : Room) s m #[(.ref r0), (.int p1)] below meth c s₁ [] 0 0 := Stand.of_body Bd
  have e0 : s₁.heap = h0 := by rw [← hh, Bd.state]; rfl
  have N0 := Fr.nil n0
  have pre0 : ∀ t, Steps p.tables e below (s₁.setTop (mkF m 0 #[oR r0, oI p1, oU, oU, oU] [])) t → Steps p.tables e below (s₁.setTop (entryFrame m #[(.ref r0), (.int p1)] 5)) t := fun t k => castTop (efm57 m r0 p1) k
  obtain ⟨T101, X101, e101, st101⟩ := getF X0 hx hZ hown (host := "") (Or.inl (own_w hw 363 rfl)) Via.refl e0 F_dimension_r0 (g := (mkF m 8 #[oR r0, oI p1, oD 0, oV, oI 0] [(.ref r0), (.int 0)])) rfl rfl (hb hby d57_8)
  obtain ⟨T102, X102, e102, st102⟩ := getF X101 hx hZ hown (host := "") (Or.inl (own_w hw 371 rfl)) Via.refl e101 F_values_r0 (g := (mkF m 16 #[oR r0, oI p1, oD 0, oV, oI 0] [(.ref r0), (.double 0)])) rfl rfl (hb hby d57_16)
  obtain ⟨T103, X103, e103, st103⟩ := getF X102 hx hZ hown (host := "") (Or.inl (own_w hw 363 rfl)) Via.refl e102 F_dimension_r0 (g := (mkF m 21 #[oR r0, oI p1, oD 0, oV, oI 0] [(.ref r0), (.int p1), (.ref va), (.double 0)])) rfl rfl (hb hby d57_21)
  obtain ⟨cl104, Ar104, qk104, Sz104, Nz104, Hh104, Gg104⟩ := id V_va
  have hin105 : ¬ (((p1 * (3 : Int32)) + (0 : Int32)) < 0 ∨ cl104.slots.size ≤ (((p1 * (3 : Int32)) + (0 : Int32))).toNatClampNeg) := inb_of Sz104 hi0
  have hat105 : cl104.slots[(((p1 * (3 : Int32)) + (0 : Int32))).toNatClampNeg]? = some (.double y0) := Has.at Hh104 hin105 hg0
  obtain ⟨T106, X106, e106, st106⟩ := getF X103 hx hZ hown (host := "") (Or.inl (own_w hw 363 rfl)) Via.refl e103 F_dimension_r0 (g := (mkF m 8 #[oR r0, oI p1, .val (.double (FP.dadd (0 : UInt64) y0)), oV, oI 1] [(.ref r0), (.int 1)])) rfl rfl (hb hby d57_8)
  obtain ⟨T107, X107, e107, st107⟩ := getF X106 hx hZ hown (host := "") (Or.inl (own_w hw 371 rfl)) Via.refl e106 F_values_r0 (g := (mkF m 16 #[oR r0, oI p1, .val (.double (FP.dadd (0 : UInt64) y0)), oV, oI 1] [(.ref r0), (.double (FP.dadd (0 : UInt64) y0))])) rfl rfl (hb hby d57_16)
  obtain ⟨T108, X108, e108, st108⟩ := getF X107 hx hZ hown (host := "") (Or.inl (own_w hw 363 rfl)) Via.refl e107 F_dimension_r0 (g := (mkF m 21 #[oR r0, oI p1, .val (.double (FP.dadd (0 : UInt64) y0)), oV, oI 1] [(.ref r0), (.int p1), (.ref va), (.double (FP.dadd (0 : UInt64) y0))])) rfl rfl (hb hby d57_21)
  have hin109 : ¬ (((p1 * (3 : Int32)) + (1 : Int32)) < 0 ∨ cl104.slots.size ≤ (((p1 * (3 : Int32)) + (1 : Int32))).toNatClampNeg) := inb_of Sz104 hi1
  have hat109 : cl104.slots[(((p1 * (3 : Int32)) + (1 : Int32))).toNatClampNeg]? = some (.double y1) := Has.at Hh104 hin109 hg1
  obtain ⟨T110, X110, e110, st110⟩ := getF X108 hx hZ hown (host := "") (Or.inl (own_w hw 363 rfl)) Via.refl e108 F_dimension_r0 (g := (mkF m 8 #[oR r0, oI p1, .val (.double (FP.dadd (FP.dadd (0 : UInt64) y0) y1)), oV, oI 2] [(.ref r0), (.int 2)])) rfl rfl (hb hby d57_8)
  obtain ⟨T111, X111, e111, st111⟩ := getF X110 hx hZ hown (host := "") (Or.inl (own_w hw 371 rfl)) Via.refl e110 F_values_r0 (g := (mkF m 16 #[oR r0, oI p1, .val (.double (FP.dadd (FP.dadd (0 : UInt64) y0) y1)), oV, oI 2] [(.ref r0), (.double (FP.dadd (FP.dadd (0 : UInt64) y0) y1))])) rfl rfl (hb hby d57_16)
  obtain ⟨T112, X112, e112, st112⟩ := getF X111 hx hZ hown (host := "") (Or.inl (own_w hw 363 rfl)) Via.refl e111 F_dimension_r0 (g := (mkF m 21 #[oR r0, oI p1, .val (.double (FP.dadd (FP.dadd (0 : UInt64) y0) y1)), oV, oI 2] [(.ref r0), (.int p1), (.ref va), (.double (FP.dadd (FP.dadd (0 : UInt64) y0) y1))])) rfl rfl (hb hby d57_21)
  have hin113 : ¬ (((p1 * (3 : Int32)) + (2 : Int32)) < 0 ∨ cl104.slots.size ≤ (((p1 * (3 : Int32)) + (2 : Int32))).toNatClampNeg) := inb_of Sz104 hi2
  have hat113 : cl104.slots[(((p1 * (3 : Int32)) + (2 : Int32))).toNatClampNeg]? = some (.double y2) := Has.at Hh104 hin113 hg2
  obtain ⟨T114, X114, e114, st114⟩ := getF X112 hx hZ hown (host := "") (Or.inl (own_w hw 363 rfl)) Via.refl e112 F_dimension_r0 (g := (mkF m 8 #[oR r0, oI p1, .val (.double (FP.dadd (FP.dadd (FP.dadd (0 : UInt64) y0) y1) y2)), oV, oI 3] [(.ref r0), (.int 3)])) rfl rfl (hb hby d57_8)
  obtain ⟨fs, hr, hrun, hended, hW, hsame⟩ := X114.leave (v := some (.double (FP.dadd (FP.dadd (FP.dadd (0 : UInt64) y0) y1) y2))) (fun h => by rw [Bd.returns] at h; cases h)
  refine ⟨_, _, pre0 _ ?_, hrun, hended, _, _, rfl, ?_, ⟨_, rfl⟩, hW, hsame.mono (by decide) (by decide)⟩
  · show own_S p e below s₁ m 0 #[oR r0, oI p1, oU, oU, oU] [] _
    refine XS.dconst0 X0.here hx rfl (v := 0) (hb hby d57_0) rfl ?_
    refine XS.dstoreN X0.here hx rfl (hb hby d57_1) rfl (l' := #[oR r0, oI p1, oD 0, oV, oU]) rfl ?_
    refine XS.iconst X0.here hx rfl (hb hby d57_2) ?_
    refine XS.istore X0.here hx rfl (hb hby d57_3) rfl (l' := #[oR r0, oI p1, oD 0, oV, oI 0]) rfl ?_
    show own_S p e below s₁ m 5 #[oR r0, oI p1, oD 0, oV, oI 0] [] _
    refine XS.iload X0.here hx rfl (hb hby d57_5) rfl ?_
    refine XS.aloadN X0.here hx rfl (hb hby d57_7) rfl rfl ?_
    show own_S p e below s₁ m 8 _ [(.ref r0), (.int 0)] _
    refine st101 _ ?_
    show own_S p e below T101 m 11 _ [(.int 3), (.int 0)] _
    refine XS.icmpNo X101.here hx rfl (hb hby d57_11) rfl (tlt (by decide : (0 : Int32) < (3 : Int32))).2.1 ?_
    refine XS.dloadN X101.here hx rfl (hb hby d57_14) rfl ?_
    refine XS.aloadN X101.here hx rfl (hb hby d57_15) rfl rfl ?_
    show own_S p e below T101 m 16 _ [(.ref r0), (.double 0)] _
    refine st102 _ ?_
    show own_S p e below T102 m 19 #[oR r0, oI p1, oD 0, oV, oI 0] [(.ref va), (.double 0)] _
    refine XS.iloadN X102.here hx rfl (hb hby d57_19) rfl ?_
    refine XS.aloadN X102.here hx rfl (hb hby d57_20) rfl rfl ?_
    show own_S p e below T102 m 21 _ [(.ref r0), (.int p1), (.ref va), (.double 0)] _
    refine st103 _ ?_
    show own_S p e below T103 m 24 _ [(.int 3), (.int p1), (.ref va), (.double 0)] _
    refine XS.imul X103.here hx rfl (hb hby d57_24) rfl ?_
    show own_S p e below T103 m 25 _ [(.int (p1 * (3 : Int32))), (.ref va), (.double 0)] _
    refine XS.iload X103.here hx rfl (hb hby d57_25) rfl ?_
    show own_S p e below T103 m 27 _ [(.int 0), (.int (p1 * (3 : Int32))), (.ref va), (.double 0)] _
    refine XS.iadd X103.here hx rfl (hb hby d57_27) rfl ?_
    show own_S p e below T103 m 28 _ [(.int ((p1 * (3 : Int32)) + (0 : Int32))), (.ref va), (.double 0)] _
    refine X103.daload hx (j := ((p1 * (3 : Int32)) + (0 : Int32))) (v := (.double y0)) (by rw [e103]; exact Ar104.1) (State.isArrayOf_alike hZ.alike Ar104.2.1) Ar104.2.2 hin105 hat105 (g := (mkF m 28 #[oR r0, oI p1, oD 0, oV, oI 0] [(.int ((p1 * (3 : Int32)) + (0 : Int32))), (.ref va), (.double 0)])) rfl rfl (hb hby d57_28) _ ?_
    show own_S p e below T103 m 29 #[oR r0, oI p1, oD 0, oV, oI 0] [(.double y0), (.double 0)] _
    refine XS.daddS X103.here hx rfl (v := (FP.dadd (0 : UInt64) y0)) (hb hby d57_29) rfl hs0 rfl ?_
    show own_S p e below T103 m 30 _ [(.double (FP.dadd (0 : UInt64) y0))] _
    refine XS.dstoreN X103.here hx rfl (hb hby d57_30) rfl (l' := #[oR r0, oI p1, .val (.double (FP.dadd (0 : UInt64) y0)), oV, oI 0]) rfl ?_
    refine XS.iinc X103.here hx rfl (hb hby d57_31) rfl (l' := #[oR r0, oI p1, .val (.double (FP.dadd (0 : UInt64) y0)), oV, oI 1]) rfl ?_
    refine XS.goto X103.here hx rfl (pc0 := 34) (pc' := 5) rfl (hb hby d57_34) (by decide) (by decide) ?_
    refine XS.iload X103.here hx rfl (hb hby d57_5) rfl ?_
    show own_S p e below T103 m 7 _ [(.int 1)] _
    refine XS.aloadN X103.here hx rfl (hb hby d57_7) rfl rfl ?_
    show own_S p e below T103 m 8 _ [(.ref r0), (.int 1)] _
    refine st106 _ ?_
    show own_S p e below T106 m 11 _ [(.int 3), (.int 1)] _
    refine XS.icmpNo X106.here hx rfl (hb hby d57_11) rfl (tlt (by decide : (1 : Int32) < (3 : Int32))).2.1 ?_
    refine XS.dloadN X106.here hx rfl (hb hby d57_14) rfl ?_
    refine XS.aloadN X106.here hx rfl (hb hby d57_15) rfl rfl ?_
    show own_S p e below T106 m 16 #[oR r0, oI p1, .val (.double (FP.dadd (0 : UInt64) y0)), oV, oI 1] [(.ref r0), (.double (FP.dadd (0 : UInt64) y0))] _
    refine st107 _ ?_
    show own_S p e below T107 m 19 _ [(.ref va), (.double (FP.dadd (0 : UInt64) y0))] _
    refine XS.iloadN X107.here hx rfl (hb hby d57_19) rfl ?_
    refine XS.aloadN X107.here hx rfl (hb hby d57_20) rfl rfl ?_
    show own_S p e below T107 m 21 _ [(.ref r0), (.int p1), (.ref va), (.double (FP.dadd (0 : UInt64) y0))] _
    refine st108 _ ?_
    show own_S p e below T108 m 24 _ [(.int 3), (.int p1), (.ref va), (.double (FP.dadd (0 : UInt64) y0))] _
    refine XS.imul X108.here hx rfl (hb hby d57_24) rfl ?_
    show own_S p e below T108 m 25 _ [(.int (p1 * (3 : Int32))), (.ref va), (.double (FP.dadd (0 : UInt64) y0))] _
    refine XS.iload X108.here hx rfl (hb hby d57_25) rfl ?_
    show own_S p e below T108 m 27 _ [(.int 1), (.int (p1 * (3 : Int32))), (.ref va), (.double (FP.dadd (0 : UInt64) y0))] _
    refine XS.iadd X108.here hx rfl (hb hby d57_27) rfl ?_
    show own_S p e below T108 m 28 #[oR r0, oI p1, .val (.double (FP.dadd (0 : UInt64) y0)), oV, oI 1] [(.int ((p1 * (3 : Int32)) + (1 : Int32))), (.ref va), (.double (FP.dadd (0 : UInt64) y0))] _
    refine X108.daload hx (j := ((p1 * (3 : Int32)) + (1 : Int32))) (v := (.double y1)) (by rw [e108]; exact Ar104.1) (State.isArrayOf_alike hZ.alike Ar104.2.1) Ar104.2.2 hin109 hat109 (g := (mkF m 28 #[oR r0, oI p1, .val (.double (FP.dadd (0 : UInt64) y0)), oV, oI 1] [(.int ((p1 * (3 : Int32)) + (1 : Int32))), (.ref va), (.double (FP.dadd (0 : UInt64) y0))])) rfl rfl (hb hby d57_28) _ ?_
    show own_S p e below T108 m 29 _ [(.double y1), (.double (FP.dadd (0 : UInt64) y0))] _
    refine XS.daddS X108.here hx rfl (v := (FP.dadd (FP.dadd (0 : UInt64) y0) y1)) (hb hby d57_29) rfl hs1 rfl ?_
    show own_S p e below T108 m 30 _ [(.double (FP.dadd (FP.dadd (0 : UInt64) y0) y1))] _
    refine XS.dstoreN X108.here hx rfl (hb hby d57_30) rfl (l' := #[oR r0, oI p1, .val (.double (FP.dadd (FP.dadd (0 : UInt64) y0) y1)), oV, oI 1]) rfl ?_
    refine XS.iinc X108.here hx rfl (hb hby d57_31) rfl (l' := #[oR r0, oI p1, .val (.double (FP.dadd (FP.dadd (0 : UInt64) y0) y1)), oV, oI 2]) rfl ?_
    refine XS.goto X108.here hx rfl (pc0 := 34) (pc' := 5) rfl (hb hby d57_34) (by decide) (by decide) ?_
    refine XS.iload X108.here hx rfl (hb hby d57_5) rfl ?_
    show own_S p e below T108 m 7 _ [(.int 2)] _
    refine XS.aloadN X108.here hx rfl (hb hby d57_7) rfl rfl ?_
    show own_S p e below T108 m 8 _ [(.ref r0), (.int 2)] _
    refine st110 _ ?_
    show own_S p e below T110 m 11 _ [(.int 3), (.int 2)] _
    refine XS.icmpNo X110.here hx rfl (hb hby d57_11) rfl (tlt (by decide : (2 : Int32) < (3 : Int32))).2.1 ?_
    refine XS.dloadN X110.here hx rfl (hb hby d57_14) rfl ?_
    refine XS.aloadN X110.here hx rfl (hb hby d57_15) rfl rfl ?_
    show own_S p e below T110 m 16 #[oR r0, oI p1, .val (.double (FP.dadd (FP.dadd (0 : UInt64) y0) y1)), oV, oI 2] [(.ref r0), (.double (FP.dadd (FP.dadd (0 : UInt64) y0) y1))] _
    refine st111 _ ?_
    show own_S p e below T111 m 19 _ [(.ref va), (.double (FP.dadd (FP.dadd (0 : UInt64) y0) y1))] _
    refine XS.iloadN X111.here hx rfl (hb hby d57_19) rfl ?_
    refine XS.aloadN X111.here hx rfl (hb hby d57_20) rfl rfl ?_
    show own_S p e below T111 m 21 _ [(.ref r0), (.int p1), (.ref va), (.double (FP.dadd (FP.dadd (0 : UInt64) y0) y1))] _
    refine st112 _ ?_
    show own_S p e below T112 m 24 _ [(.int 3), (.int p1), (.ref va), (.double (FP.dadd (FP.dadd (0 : UInt64) y0) y1))] _
    refine XS.imul X112.here hx rfl (hb hby d57_24) rfl ?_
    show own_S p e below T112 m 25 _ [(.int (p1 * (3 : Int32))), (.ref va), (.double (FP.dadd (FP.dadd (0 : UInt64) y0) y1))] _
    refine XS.iload X112.here hx rfl (hb hby d57_25) rfl ?_
    show own_S p e below T112 m 27 _ [(.int 2), (.int (p1 * (3 : Int32))), (.ref va), (.double (FP.dadd (FP.dadd (0 : UInt64) y0) y1))] _
    refine XS.iadd X112.here hx rfl (hb hby d57_27) rfl ?_
    show own_S p e below T112 m 28 #[oR r0, oI p1, .val (.double (FP.dadd (FP.dadd (0 : UInt64) y0) y1)), oV, oI 2] [(.int ((p1 * (3 : Int32)) + (2 : Int32))), (.ref va), (.double (FP.dadd (FP.dadd (0 : UInt64) y0) y1))] _
    refine X112.daload hx (j := ((p1 * (3 : Int32)) + (2 : Int32))) (v := (.double y2)) (by rw [e112]; exact Ar104.1) (State.isArrayOf_alike hZ.alike Ar104.2.1) Ar104.2.2 hin113 hat113 (g := (mkF m 28 #[oR r0, oI p1, .val (.double (FP.dadd (FP.dadd (0 : UInt64) y0) y1)), oV, oI 2] [(.int ((p1 * (3 : Int32)) + (2 : Int32))), (.ref va), (.double (FP.dadd (FP.dadd (0 : UInt64) y0) y1))])) rfl rfl (hb hby d57_28) _ ?_
    show own_S p e below T112 m 29 _ [(.double y2), (.double (FP.dadd (FP.dadd (0 : UInt64) y0) y1))] _
    refine XS.daddS X112.here hx rfl (v := (FP.dadd (FP.dadd (FP.dadd (0 : UInt64) y0) y1) y2)) (hb hby d57_29) rfl hs2 rfl ?_
    show own_S p e below T112 m 30 _ [(.double (FP.dadd (FP.dadd (FP.dadd (0 : UInt64) y0) y1) y2))] _
    refine XS.dstoreN X112.here hx rfl (hb hby d57_30) rfl (l' := #[oR r0, oI p1, .val (.double (FP.dadd (FP.dadd (FP.dadd (0 : UInt64) y0) y1) y2)), oV, oI 2]) rfl ?_
    refine XS.iinc X112.here hx rfl (hb hby d57_31) rfl (l' := #[oR r0, oI p1, .val (.double (FP.dadd (FP.dadd (FP.dadd (0 : UInt64) y0) y1) y2)), oV, oI 3]) rfl ?_
    refine XS.goto X112.here hx rfl (pc0 := 34) (pc' := 5) rfl (hb hby d57_34) (by decide) (by decide) ?_
    refine XS.iload X112.here hx rfl (hb hby d57_5) rfl ?_
    show own_S p e below T112 m 7 _ [(.int 3)] _
    refine XS.aloadN X112.here hx rfl (hb hby d57_7) rfl rfl ?_
    show own_S p e below T112 m 8 _ [(.ref r0), (.int 3)] _
    refine st114 _ ?_
    show own_S p e below T114 m 11 _ [(.int 3), (.int 3)] _
    refine XS.icmpYes X114.here hx rfl (pc0 := 11) (pc' := 37) rfl (hb hby d57_11) rfl (flt (by decide : ¬ ((3 : Int32) < (3 : Int32)))).2.1 (by decide) (by decide) ?_
    refine XS.dloadN X114.here hx rfl (hb hby d57_37) rfl ?_
    show own_S p e below T114 m 38 _ [(.double (FP.dadd (FP.dadd (FP.dadd (0 : UInt64) y0) y1) y2))] _
    exact retOut X114 hx Bd.returns rfl (Or.inr (Or.inr (Or.inl ⟨rfl, rfl, _, rfl⟩))) (hb hby d57_38) hr
  · show Qm57 Z r0 p1 va kva vs y0 y1 y2 h0 n0 _ T114.heap _
    rw [e114]
    exact ⟨rfl, N0, rfl⟩
def own_two (a b : Slot) : Prop := (a = oU ∧ b = oU) ∨ ∃ x : UInt64, a = .val (.double x) ∧ b = oV
theorem own_st8 {a0 a1 a2 a3 a4 a5 a6 a7 o8 o9 : Slot} {d : UInt64} (h : own_two o8 o9) : storeLocals #[a0, a1, a2, a3, a4, a5, a6, a7, o8, o9] 8 (.double d) = some #[a0, a1, a2, a3, a4, a5, a6, a7, oD d, oV] := by
  rcases h with ⟨rfl, rfl⟩ | ⟨x, rfl, rfl⟩ <;> rfl
theorem d46_189 : decode k46 189 = .ok (.aload 6, 2) := by decide +kernel
theorem d46_191 : decode k46 191 = .ok (.invokeinterface 51 1, 5) := by decide +kernel
theorem d46_196 : decode k46 196 = .ok (.astore 7, 2) := by decide +kernel
theorem d46_198 : decode k46 198 = .ok (.aload 7, 2) := by decide +kernel
theorem d46_200 : decode k46 200 = .ok (.invokeinterface 55 1, 5) := by decide +kernel
theorem d46_205 : decode k46 205 = .ok (.ifCond .eq 32, 3) := by decide +kernel
theorem d46_208 : decode k46 208 = .ok (.aload 7, 2) := by decide +kernel
theorem d46_210 : decode k46 210 = .ok (.invokeinterface 60 1, 5) := by decide +kernel
theorem d46_215 : decode k46 215 = .ok (.checkcast 64, 3) := by decide +kernel
theorem d46_218 : decode k46 218 = .ok (.invokevirtual 66, 3) := by decide +kernel
theorem d46_221 : decode k46 221 = .ok (.dstore 8, 2) := by decide +kernel
theorem d46_223 : decode k46 223 = .ok (.aload_n 0, 1) := by decide +kernel
theorem d46_224 : decode k46 224 = .ok (.getfield 47, 3) := by decide +kernel
theorem d46_227 : decode k46 227 = .ok (.iload_n 2, 1) := by decide +kernel
theorem d46_228 : decode k46 228 = .ok (.iinc 2 1, 3) := by decide +kernel
theorem d46_231 : decode k46 231 = .ok (.dload 8, 2) := by decide +kernel
theorem d46_233 : decode k46 233 = .ok (.dastore, 1) := by decide +kernel
theorem d46_234 : decode k46 234 = .ok (.goto (-36), 3) := by decide +kernel
theorem d46_237 : decode k46 237 = .ok (.goto (-70), 3) := by decide +kernel
set_option maxRecDepth 65536 in
set_option maxHeartbeats 40000000 in
theorem own_VS (l : Launch) (Z : State) (a0 : Array Value) (hw : own_HW Z a0) (r0 : Addr) (r1 : Addr) (it3 : Addr) (o4 : Addr) (it5 : Addr) (l6 : Addr) (va : Addr) (A : Addr) (x0 : Addr) (x1 : Addr) (x2 : Addr) (kva : ClassId) (kA : ClassId) (pi : Int32) (qi : Int32) (bi : Nat) (vs : List Value) (wa : Value) (e0v : UInt64) (e1v : UInt64) (e2v : UInt64) (s7 : Slot) (s8 : Slot) (s9 : Slot) (c0 : Nat) (s0 : Nat) (h0 : Heap) (n0 : Nat) (Z0 : n0 ≤ h0.size) (E_r0 : Exa Z h0 r0 kIV) (F_values_r0 : Fld Z h0 r0 kIV "values" "[D" (.ref va)) (V_va : Arv Z h0 va kva .double (12 : Int32) vs (.double 0)) (E_va : Exa Z h0 va "[D") (g_va : n0 ≤ va) (E_l6 : Exa Z h0 l6 kLN) (F_elements_l6 : Fld Z h0 l6 kLN "elements" kOA (.ref A)) (F_allowNulls_l6 : Fld Z h0 l6 kLN "allowNulls" "Z" wa) (V_A : Arv Z h0 A kA (.object kOB) (3 : Int32) [(.ref x0), (.ref x1), (.ref x2)] .null) (E_A : Exa Z h0 A kOA) (E_x0 : Exa Z h0 x0 kDB) (F_value_x0 : Fld Z h0 x0 kDB "value" "D" (.double e0v)) (E_x1 : Exa Z h0 x1 kDB) (F_value_x1 : Fld Z h0 x1 kDB "value" "D" (.double e1v)) (E_x2 : Exa Z h0 x2 kDB) (F_value_x2 : Fld Z h0 x2 kDB "value" "D" (.double e2v)) (hi0 : ¬ pi < (0 : Int32) ∧ pi < (12 : Int32)) (hp0 : pi.toNatClampNeg = bi) (hl0 : bi < vs.length) (hi1 : ¬ (pi + (1 : Int32)) < (0 : Int32) ∧ (pi + (1 : Int32)) < (12 : Int32)) (hp1 : (pi + (1 : Int32)).toNatClampNeg = (bi + 1)) (hl1 : (bi + 1) < (vs.set bi (.double e0v)).length) (hi2 : ¬ ((pi + (1 : Int32)) + (1 : Int32)) < (0 : Int32) ∧ ((pi + (1 : Int32)) + (1 : Int32)) < (12 : Int32)) (hp2 : ((pi + (1 : Int32)) + (1 : Int32)).toNatClampNeg = (bi + 2)) (hl2 : (bi + 2) < ((vs.set bi (.double e0v)).set (bi + 1) (.double e1v)).length) (hqi : qi = (((pi + (1 : Int32)) + (1 : Int32)) + (1 : Int32))) (hs7 : One s7) (h89 : own_two s8 s9) (hc0 : c0 + 1 ≤ 12) (hsl0 : s0 + 4 ≤ 70)
    {p : Program} {e : Env} {s : State} {m : MethodId} {args : Array Value} {below : List Frame} {meth : Method} {c : Code} {s₁ : State} {Lc : List Loc} (hx : p.tables.exec = Jvm.exec) (hby : c.code = prog_26_method_1_code) (hml : c.maxLocals = 10) (hZ : Z.Warmed39 s.vm) (hown : s.vm.findClass kIV = some m.cls) (hnm : meth.name = "<init>") (X0 : Stand p l e ({ frames := 4, cells := 12, slots := 70, locals := 80 } : Room) s m args below meth c s₁ Lc c0 s0) (e0 : s₁.heap = h0) (N0 : Fr n0 Lc) :
    ∃ it : Addr, ∃ T : State, ∃ L : List Loc, Stand p l e ({ frames := 4, cells := 12, slots := 70, locals := 80 } : Room) s m args below meth c T L (c0 + 1) (s0 + 4) ∧ Fr n0 L ∧ (Keep h0 T.heap [va]) ∧ (Arv Z T.heap va kva .double (12 : Int32) (((vs.set bi (.double e0v)).set (bi + 1) (.double e1v)).set (bi + 2) (.double e2v)) (.double 0)) ∧ ∀ t, Steps p.tables e below (T.setTop (mkF m 167 #[oR r0, oR r1, oI qi, oR it3, oR o4, oR it5, oR l6, oR it, oD e2v, oV] [])) t → Steps p.tables e below (s₁.setTop (mkF m 189 #[oR r0, oR r1, oI pi, oR it3, oR o4, oR it5, oR l6, s7, s8, s9] [])) t := by
  obtain ⟨_, T101, L101, X101, hQ101, st101⟩ := own_cI X0 hx hZ hw hown (b := l6) (W := 0) (rm_it3 l Z a0 hw [] l6 A x0 x1 x2 kA wa h0 n0 Z0 E_l6 F_elements_l6 F_allowNulls_l6 V_A) (by decide) (by decide) (by decide) 373 rfl 155 rfl 156 rfl 413 rfl 377 rfl 378 rfl 414 rfl 357 rfl 380 rfl 285 rfl e0 E_l6 (g := (mkF m 191 #[oR r0, oR r1, oI pi, oR it3, oR o4, oR it5, oR l6, s7, s8, s9] [(.ref l6)])) rfl (by rw [hml]; rfl) (argsL := []) (rest := []) (lenOf pd21 rfl) rfl (Nat.le_of_eq rfl) (hb hby d46_191) rfl (cN := (c0 + 1)) rfl (by show (c0 + 1) ≤ 12; omega) (sN := (s0 + 4)) rfl (by show (s0 + 4) ≤ 70; omega)
  obtain ⟨it_101, rfl, Nq101, P101_0, P101_1, P101_2, P101_3, P101_4, P101_5, P101_6⟩ := hQ101
  have N101 := Fr.app N0 Nq101
  have g_it_101 : n0 ≤ it_101 := Nat.le_trans Z0 P101_1
  have sz_it_101 : h0.size ≤ it_101 := Nat.le_trans (Keep.refl h0 [va]).1 P101_1
  have ZZ102 : n0 ≤ T101.heap.size := Nat.le_trans Z0 P101_0.1
  have KK103 : Keep h0 T101.heap [va] := Keep.trans (Keep.refl h0 [va]) P101_0 all0
  obtain ⟨_, T104, L104, X104, hQ104, st104⟩ := own_cI X101 hx hZ hw hown (b := it_101) (W := 0) (rm_lh1 l Z a0 hw [] it_101 (0 : Int32) (3 : Int32) (.ref l6) (.int 0) T101.heap n0 ZZ102 P101_3 P101_4 P101_5 P101_6 (by decide)) (by decide) (by decide) (by decide) 374 rfl 178 rfl 179 rfl 401 rfl 402 rfl 403 rfl 404 rfl 405 rfl 406 rfl 383 rfl rfl P101_2 (g := (mkF m 200 #[oR r0, oR r1, oI pi, oR it3, oR o4, oR it5, oR l6, oR it_101, s8, s9] [(.ref it_101)])) rfl (by rw [hml]; rfl) (argsL := []) (rest := []) (lenOf pd15 rfl) rfl (Nat.le_of_eq rfl) (hb hby d46_200) rfl (cN := (c0 + 1)) rfl (by show (c0 + 1) ≤ 12; omega) (sN := (s0 + 4)) rfl (by show (s0 + 4) ≤ 70; omega)
  obtain ⟨rfl, Nq104, P104_0⟩ := hQ104
  have N104 := Fr.app N101 Nq104
  have Fc105 := (F_elements_l6.keep P101_0 nin0)
  have Fc106 := (F_allowNulls_l6.keep P101_0 nin0)
  obtain ⟨_, T107, L107, X107, hQ107, st107⟩ := own_cIW X104 hx hZ hw hown (b := it_101) (W := 0) (rm_ln3_0 l Z a0 hw [] it_101 l6 A x0 x1 x2 kA wa (.int 0) T101.heap n0 ZZ102 P101_2 g_it_101 P101_3 P101_4 P101_5 P101_6 (E_l6.keep P101_0) Fc105 Fc106 (V_A.keep P101_0 nin0)) (by decide) (by decide) (by decide) 375 rfl 190 rfl 191 rfl 407 rfl 408 rfl 409 rfl 410 rfl 405 rfl 411 rfl 383 rfl P104_0 P101_2 (g := (mkF m 210 #[oR r0, oR r1, oI pi, oR it3, oR o4, oR it5, oR l6, oR it_101, s8, s9] [(.ref it_101)])) rfl (by rw [hml]; rfl) (argsL := []) (rest := []) (lenOf pd22 rfl) rfl (Nat.le_of_eq rfl) (hb hby d46_210) rfl (cN := (c0 + 1)) rfl (by show (c0 + 1) ≤ 12; omega) (sN := (s0 + 4)) rfl (by show (s0 + 4) ≤ 70; omega)
  obtain ⟨rfl, Nq107, P107_0, P107_1, P107_2, P107_3, P107_4⟩ := hQ107
  have N107 := Fr.app N104 Nq107
  have ZZ108 : n0 ≤ T107.heap.size := Nat.le_trans ZZ102 P107_0.1
  have KK109 : Keep h0 T107.heap [va] := Keep.trans KK103 P107_0 (allS (Or.inr sz_it_101) all0)
  have Fc110 := (E_x0.keep KK109)
  obtain ⟨T111, X111, e111, st111⟩ := castY X107 hx hZ hown (own_w hw 421 rfl) rfl (Ins.self Fc110) (g := (mkF m 215 #[oR r0, oR r1, oI pi, oR it3, oR o4, oR it5, oR l6, oR it_101, s8, s9] [(.ref x0)])) rfl rfl (hb hby d46_215)
  have Fc112 := ((E_va.keep P101_0).keep P107_0)
  have nq113 : x0 ≠ va := (ne_exa Fc110 Fc112 (by decide))
  have Fc114 := (F_value_x0.keep KK109 (ninS nq113 nin0))
  obtain ⟨_, T115, L115, X115, hQ115, st115⟩ := own_cV X111 hx hZ hw hown (b := x0) (W := 0) (rmm30 l Z a0 hw [] x0 e0v T107.heap n0 ZZ108 Fc114) (by decide) (by decide) (by decide) 422 rfl 205 rfl 207 rfl 206 rfl 208 rfl 35 rfl e111 Fc110 (g := (mkF m 218 #[oR r0, oR r1, oI pi, oR it3, oR o4, oR it5, oR l6, oR it_101, s8, s9] [(.ref x0)])) rfl (by rw [hml]; rfl) (argsL := []) (rest := []) (lenOf pd23 rfl) rfl (Nat.le_of_eq rfl) (hb hby d46_218) rfl (cN := (c0 + 1)) rfl (by show (c0 + 1) ≤ 12; omega) (sN := (s0 + 4)) rfl (by show (s0 + 4) ≤ 70; omega)
  obtain ⟨rfl, Nq115, P115_0⟩ := hQ115
  have N115 := Fr.app N107 Nq115
  have Fc116 := (E_r0.keep KK109)
  have nq117 : r0 ≠ va := (ne_exa Fc116 Fc112 (by decide))
  have Fc118 := (F_values_r0.keep KK109 (ninS nq117 nin0))
  obtain ⟨T119, X119, e119, st119⟩ := getF X115 hx hZ hown (host := "") (Or.inl (own_w hw 371 rfl)) Via.refl P115_0 Fc118 (g := (mkF m 224 #[oR r0, oR r1, oI pi, oR it3, oR o4, oR it5, oR l6, oR it_101, oD e0v, oV] [(.ref r0)])) rfl rfl (hb hby d46_224)
  have nq120 : va ≠ it_101 := (ne_exa Fc112 (P101_2.keep P107_0) (by decide))
  have Fc121 := ((V_va.keep P101_0 nin0).keep P107_0 (ninS nq120 nin0))
  obtain ⟨cl122, Ar122, qk122, Sz122, Nz122, Hh122, Gg122⟩ := id Fc121
  have hin123 : ¬ (pi < 0 ∨ cl122.slots.size ≤ (pi).toNatClampNeg) := inb_of Sz122 hi0
  obtain ⟨T124, h124, X124, e124, W124, st124⟩ := stD X119 hx hZ e119 Ar122 (j := pi) hin123 (g := (mkF m 233 #[oR r0, oR r1, .val (.int (pi + (1 : Int32))), oR it3, oR o4, oR it5, oR l6, oR it_101, oD e0v, oV] [(.double e0v), (.int pi), (.ref va)])) rfl rfl (hb hby d46_233)
  have Va124 := Arv.set Ar122 qk122 Sz122 Nz122 Hh122 Gg122 rfl W124 bi hp0 hl0
  have N124 := Fr.snoc X124 N115 g_va
  have ZZ125 : n0 ≤ h124.size := Nat.le_trans ZZ108 (Nat.le_of_eq W124.size.symm)
  have KK126 : Keep h0 h124 [va] := KK109.wr W124 (Or.inl (List.mem_of_getElem? (i := 0) rfl))
  have Fc127 := (P107_1.other W124 (Or.inl (Ne.symm nq120)))
  have Fc128 := (P107_2.other W124 (Or.inl (Ne.symm nq120)))
  have Fc129 := (P107_3.other W124 (Or.inl (Ne.symm nq120)))
  have Fc130 := (P107_4.other W124 (Or.inl (Ne.symm nq120)))
  have Fc132 := ((P101_2.keep P107_0).wr W124)
  obtain ⟨_, T131, L131, X131, hQ131, st131⟩ := own_cI X124 hx hZ hw hown (b := it_101) (W := 0) (rm_lh1 l Z a0 hw [] it_101 (1 : Int32) (3 : Int32) (.ref l6) (.int 0) h124 n0 ZZ125 Fc127 Fc128 Fc129 Fc130 (by decide)) (by decide) (by decide) (by decide) 374 rfl 178 rfl 179 rfl 401 rfl 402 rfl 403 rfl 404 rfl 405 rfl 406 rfl 383 rfl e124 Fc132 (g := (mkF m 200 #[oR r0, oR r1, .val (.int (pi + (1 : Int32))), oR it3, oR o4, oR it5, oR l6, oR it_101, oD e0v, oV] [(.ref it_101)])) rfl (by rw [hml]; rfl) (argsL := []) (rest := []) (lenOf pd15 rfl) rfl (Nat.le_of_eq rfl) (hb hby d46_200) rfl (cN := (c0 + 1)) rfl (by show (c0 + 1) ≤ 12; omega) (sN := (s0 + 4)) rfl (by show (s0 + 4) ≤ 70; omega)
  obtain ⟨rfl, Nq131, P131_0⟩ := hQ131
  have N131 := Fr.app N124 Nq131
  have Fc133 := (E_l6.keep KK126)
  have nq134 : l6 ≠ it_101 := (ne_exa Fc133 Fc132 (by decide))
  have nq135 : l6 ≠ va := (ne_exa Fc133 (Fc112.wr W124) (by decide))
  have Fc136 := ((Fc105.keep P107_0 (ninS nq134 nin0)).other W124 (Or.inl nq135))
  have Fc137 := ((Fc106.keep P107_0 (ninS nq134 nin0)).other W124 (Or.inl nq135))
  have Fc138 := (E_A.keep KK126)
  have nq139 : A ≠ va := (ne_exa Fc138 (Fc112.wr W124) (by decide))
  have Fc140 := (V_A.keep KK126 (ninS nq139 nin0))
  obtain ⟨_, T141, L141, X141, hQ141, st141⟩ := own_cIW X131 hx hZ hw hown (b := it_101) (W := 0) (rm_ln3_1 l Z a0 hw [] it_101 l6 A x0 x1 x2 kA wa (.int 0) h124 n0 ZZ125 Fc132 g_it_101 Fc127 Fc128 Fc129 Fc130 Fc133 Fc136 Fc137 Fc140) (by decide) (by decide) (by decide) 375 rfl 190 rfl 191 rfl 407 rfl 408 rfl 409 rfl 410 rfl 405 rfl 411 rfl 383 rfl P131_0 Fc132 (g := (mkF m 210 #[oR r0, oR r1, .val (.int (pi + (1 : Int32))), oR it3, oR o4, oR it5, oR l6, oR it_101, oD e0v, oV] [(.ref it_101)])) rfl (by rw [hml]; rfl) (argsL := []) (rest := []) (lenOf pd22 rfl) rfl (Nat.le_of_eq rfl) (hb hby d46_210) rfl (cN := (c0 + 1)) rfl (by show (c0 + 1) ≤ 12; omega) (sN := (s0 + 4)) rfl (by show (s0 + 4) ≤ 70; omega)
  obtain ⟨rfl, Nq141, P141_0, P141_1, P141_2, P141_3, P141_4⟩ := hQ141
  have N141 := Fr.app N131 Nq141
  have ZZ142 : n0 ≤ T141.heap.size := Nat.le_trans ZZ125 P141_0.1
  have KK143 : Keep h0 T141.heap [va] := Keep.trans KK126 P141_0 (allS (Or.inr sz_it_101) all0)
  have Fc144 := (E_x1.keep KK143)
  obtain ⟨T145, X145, e145, st145⟩ := castY X141 hx hZ hown (own_w hw 421 rfl) rfl (Ins.self Fc144) (g := (mkF m 215 #[oR r0, oR r1, .val (.int (pi + (1 : Int32))), oR it3, oR o4, oR it5, oR l6, oR it_101, oD e0v, oV] [(.ref x1)])) rfl rfl (hb hby d46_215)
  have Fc146 := ((Fc112.wr W124).keep P141_0)
  have nq147 : x1 ≠ va := (ne_exa Fc144 Fc146 (by decide))
  have Fc148 := (F_value_x1.keep KK143 (ninS nq147 nin0))
  obtain ⟨_, T149, L149, X149, hQ149, st149⟩ := own_cV X145 hx hZ hw hown (b := x1) (W := 0) (rmm30 l Z a0 hw [] x1 e1v T141.heap n0 ZZ142 Fc148) (by decide) (by decide) (by decide) 422 rfl 205 rfl 207 rfl 206 rfl 208 rfl 35 rfl e145 Fc144 (g := (mkF m 218 #[oR r0, oR r1, .val (.int (pi + (1 : Int32))), oR it3, oR o4, oR it5, oR l6, oR it_101, oD e0v, oV] [(.ref x1)])) rfl (by rw [hml]; rfl) (argsL := []) (rest := []) (lenOf pd23 rfl) rfl (Nat.le_of_eq rfl) (hb hby d46_218) rfl (cN := (c0 + 1)) rfl (by show (c0 + 1) ≤ 12; omega) (sN := (s0 + 4)) rfl (by show (s0 + 4) ≤ 70; omega)
  obtain ⟨rfl, Nq149, P149_0⟩ := hQ149
  have N149 := Fr.app N141 Nq149
  have Fc150 := (F_values_r0.keep KK143 (ninS nq117 nin0))
  obtain ⟨T151, X151, e151, st151⟩ := getF X149 hx hZ hown (host := "") (Or.inl (own_w hw 371 rfl)) Via.refl P149_0 Fc150 (g := (mkF m 224 #[oR r0, oR r1, .val (.int (pi + (1 : Int32))), oR it3, oR o4, oR it5, oR l6, oR it_101, oD e1v, oV] [(.ref r0)])) rfl rfl (hb hby d46_224)
  have Fc152 := (Va124.keep P141_0 (ninS nq120 nin0))
  obtain ⟨cl153, Ar153, qk153, Sz153, Nz153, Hh153, Gg153⟩ := id Fc152
  have hin154 : ¬ ((pi + (1 : Int32)) < 0 ∨ cl153.slots.size ≤ ((pi + (1 : Int32))).toNatClampNeg) := inb_of Sz153 hi1
  obtain ⟨T155, h155, X155, e155, W155, st155⟩ := stD X151 hx hZ e151 Ar153 (j := (pi + (1 : Int32))) hin154 (g := (mkF m 233 #[oR r0, oR r1, .val (.int ((pi + (1 : Int32)) + (1 : Int32))), oR it3, oR o4, oR it5, oR l6, oR it_101, oD e1v, oV] [(.double e1v), (.int (pi + (1 : Int32))), (.ref va)])) rfl rfl (hb hby d46_233)
  have Va155 := Arv.set Ar153 qk153 Sz153 Nz153 Hh153 Gg153 rfl W155 (bi + 1) hp1 hl1
  have N155 := Fr.snoc X155 N149 g_va
  have ZZ156 : n0 ≤ h155.size := Nat.le_trans ZZ142 (Nat.le_of_eq W155.size.symm)
  have KK157 : Keep h0 h155 [va] := KK143.wr W155 (Or.inl (List.mem_of_getElem? (i := 0) rfl))
  have Fc158 := (P141_1.other W155 (Or.inl (Ne.symm nq120)))
  have Fc159 := (P141_2.other W155 (Or.inl (Ne.symm nq120)))
  have Fc160 := (P141_3.other W155 (Or.inl (Ne.symm nq120)))
  have Fc161 := (P141_4.other W155 (Or.inl (Ne.symm nq120)))
  have Fc163 := ((Fc132.keep P141_0).wr W155)
  obtain ⟨_, T162, L162, X162, hQ162, st162⟩ := own_cI X155 hx hZ hw hown (b := it_101) (W := 0) (rm_lh1 l Z a0 hw [] it_101 (2 : Int32) (3 : Int32) (.ref l6) (.int 0) h155 n0 ZZ156 Fc158 Fc159 Fc160 Fc161 (by decide)) (by decide) (by decide) (by decide) 374 rfl 178 rfl 179 rfl 401 rfl 402 rfl 403 rfl 404 rfl 405 rfl 406 rfl 383 rfl e155 Fc163 (g := (mkF m 200 #[oR r0, oR r1, .val (.int ((pi + (1 : Int32)) + (1 : Int32))), oR it3, oR o4, oR it5, oR l6, oR it_101, oD e1v, oV] [(.ref it_101)])) rfl (by rw [hml]; rfl) (argsL := []) (rest := []) (lenOf pd15 rfl) rfl (Nat.le_of_eq rfl) (hb hby d46_200) rfl (cN := (c0 + 1)) rfl (by show (c0 + 1) ≤ 12; omega) (sN := (s0 + 4)) rfl (by show (s0 + 4) ≤ 70; omega)
  obtain ⟨rfl, Nq162, P162_0⟩ := hQ162
  have N162 := Fr.app N155 Nq162
  have Fc164 := (E_l6.keep KK157)
  have Fc165 := ((Fc136.keep P141_0 (ninS nq134 nin0)).other W155 (Or.inl nq135))
  have Fc166 := ((Fc137.keep P141_0 (ninS nq134 nin0)).other W155 (Or.inl nq135))
  have Fc167 := (V_A.keep KK157 (ninS nq139 nin0))
  obtain ⟨_, T168, L168, X168, hQ168, st168⟩ := own_cIW X162 hx hZ hw hown (b := it_101) (W := 0) (rm_ln3_2 l Z a0 hw [] it_101 l6 A x0 x1 x2 kA wa (.int 0) h155 n0 ZZ156 Fc163 g_it_101 Fc158 Fc159 Fc160 Fc161 Fc164 Fc165 Fc166 Fc167) (by decide) (by decide) (by decide) 375 rfl 190 rfl 191 rfl 407 rfl 408 rfl 409 rfl 410 rfl 405 rfl 411 rfl 383 rfl P162_0 Fc163 (g := (mkF m 210 #[oR r0, oR r1, .val (.int ((pi + (1 : Int32)) + (1 : Int32))), oR it3, oR o4, oR it5, oR l6, oR it_101, oD e1v, oV] [(.ref it_101)])) rfl (by rw [hml]; rfl) (argsL := []) (rest := []) (lenOf pd22 rfl) rfl (Nat.le_of_eq rfl) (hb hby d46_210) rfl (cN := (c0 + 1)) rfl (by show (c0 + 1) ≤ 12; omega) (sN := (s0 + 4)) rfl (by show (s0 + 4) ≤ 70; omega)
  obtain ⟨rfl, Nq168, P168_0, P168_1, P168_2, P168_3, P168_4⟩ := hQ168
  have N168 := Fr.app N162 Nq168
  have ZZ169 : n0 ≤ T168.heap.size := Nat.le_trans ZZ156 P168_0.1
  have KK170 : Keep h0 T168.heap [va] := Keep.trans KK157 P168_0 (allS (Or.inr sz_it_101) all0)
  have Fc171 := (E_x2.keep KK170)
  obtain ⟨T172, X172, e172, st172⟩ := castY X168 hx hZ hown (own_w hw 421 rfl) rfl (Ins.self Fc171) (g := (mkF m 215 #[oR r0, oR r1, .val (.int ((pi + (1 : Int32)) + (1 : Int32))), oR it3, oR o4, oR it5, oR l6, oR it_101, oD e1v, oV] [(.ref x2)])) rfl rfl (hb hby d46_215)
  have Fc173 := ((Fc146.wr W155).keep P168_0)
  have nq174 : x2 ≠ va := (ne_exa Fc171 Fc173 (by decide))
  have Fc175 := (F_value_x2.keep KK170 (ninS nq174 nin0))
  obtain ⟨_, T176, L176, X176, hQ176, st176⟩ := own_cV X172 hx hZ hw hown (b := x2) (W := 0) (rmm30 l Z a0 hw [] x2 e2v T168.heap n0 ZZ169 Fc175) (by decide) (by decide) (by decide) 422 rfl 205 rfl 207 rfl 206 rfl 208 rfl 35 rfl e172 Fc171 (g := (mkF m 218 #[oR r0, oR r1, .val (.int ((pi + (1 : Int32)) + (1 : Int32))), oR it3, oR o4, oR it5, oR l6, oR it_101, oD e1v, oV] [(.ref x2)])) rfl (by rw [hml]; rfl) (argsL := []) (rest := []) (lenOf pd23 rfl) rfl (Nat.le_of_eq rfl) (hb hby d46_218) rfl (cN := (c0 + 1)) rfl (by show (c0 + 1) ≤ 12; omega) (sN := (s0 + 4)) rfl (by show (s0 + 4) ≤ 70; omega)
  obtain ⟨rfl, Nq176, P176_0⟩ := hQ176
  have N176 := Fr.app N168 Nq176
  have Fc177 := (F_values_r0.keep KK170 (ninS nq117 nin0))
  obtain ⟨T178, X178, e178, st178⟩ := getF X176 hx hZ hown (host := "") (Or.inl (own_w hw 371 rfl)) Via.refl P176_0 Fc177 (g := (mkF m 224 #[oR r0, oR r1, .val (.int ((pi + (1 : Int32)) + (1 : Int32))), oR it3, oR o4, oR it5, oR l6, oR it_101, oD e2v, oV] [(.ref r0)])) rfl rfl (hb hby d46_224)
  have Fc179 := (Va155.keep P168_0 (ninS nq120 nin0))
  obtain ⟨cl180, Ar180, qk180, Sz180, Nz180, Hh180, Gg180⟩ := id Fc179
  have hin181 : ¬ (((pi + (1 : Int32)) + (1 : Int32)) < 0 ∨ cl180.slots.size ≤ (((pi + (1 : Int32)) + (1 : Int32))).toNatClampNeg) := inb_of Sz180 hi2
  obtain ⟨T182, h182, X182, e182, W182, st182⟩ := stD X178 hx hZ e178 Ar180 (j := ((pi + (1 : Int32)) + (1 : Int32))) hin181 (g := (mkF m 233 #[oR r0, oR r1, .val (.int (((pi + (1 : Int32)) + (1 : Int32)) + (1 : Int32))), oR it3, oR o4, oR it5, oR l6, oR it_101, oD e2v, oV] [(.double e2v), (.int ((pi + (1 : Int32)) + (1 : Int32))), (.ref va)])) rfl rfl (hb hby d46_233)
  have Va182 := Arv.set Ar180 qk180 Sz180 Nz180 Hh180 Gg180 rfl W182 (bi + 2) hp2 hl2
  have N182 := Fr.snoc X182 N176 g_va
  have ZZ183 : n0 ≤ h182.size := Nat.le_trans ZZ169 (Nat.le_of_eq W182.size.symm)
  have KK184 : Keep h0 h182 [va] := KK170.wr W182 (Or.inl (List.mem_of_getElem? (i := 0) rfl))
  have Fc185 := (P168_1.other W182 (Or.inl (Ne.symm nq120)))
  have Fc186 := (P168_2.other W182 (Or.inl (Ne.symm nq120)))
  have Fc187 := (P168_3.other W182 (Or.inl (Ne.symm nq120)))
  have Fc188 := (P168_4.other W182 (Or.inl (Ne.symm nq120)))
  have Fc190 := ((Fc163.keep P168_0).wr W182)
  obtain ⟨_, T189, L189, X189, hQ189, st189⟩ := own_cI X182 hx hZ hw hown (b := it_101) (W := 0) (rm_lh0 l Z a0 hw [] it_101 (3 : Int32) (3 : Int32) (.ref l6) (.int 0) h182 n0 ZZ183 Fc185 Fc186 Fc187 Fc188 rfl) (by decide) (by decide) (by decide) 374 rfl 178 rfl 179 rfl 401 rfl 402 rfl 403 rfl 404 rfl 405 rfl 406 rfl 383 rfl e182 Fc190 (g := (mkF m 200 #[oR r0, oR r1, .val (.int (((pi + (1 : Int32)) + (1 : Int32)) + (1 : Int32))), oR it3, oR o4, oR it5, oR l6, oR it_101, oD e2v, oV] [(.ref it_101)])) rfl (by rw [hml]; rfl) (argsL := []) (rest := []) (lenOf pd15 rfl) rfl (Nat.le_of_eq rfl) (hb hby d46_200) rfl (cN := (c0 + 1)) rfl (by show (c0 + 1) ≤ 12; omega) (sN := (s0 + 4)) rfl (by show (s0 + 4) ≤ 70; omega)
  obtain ⟨rfl, Nq189, P189_0⟩ := hQ189
  have N189 := Fr.app N182 Nq189
  refine ⟨it_101, _, _, X189, N189, (by rw [P189_0]; exact KK184), (by rw [P189_0]; exact Va182), fun t kt => ?_⟩
  show own_S p e below s₁ m 189 #[oR r0, oR r1, oI pi, oR it3, oR o4, oR it5, oR l6, s7, s8, s9] [] _
  refine XS.aload X0.here hx rfl (hb hby d46_189) rfl rfl ?_
  show own_S p e below s₁ m 191 _ [(.ref l6)] _
  refine st101.trans ?_
  show own_S p e below T101 m 196 _ [(.ref it_101)] _
  refine XS.astore X101.here hx rfl (hb hby d46_196) rfl rfl (l' := #[oR r0, oR r1, oI pi, oR it3, oR o4, oR it5, oR l6, oR it_101, s8, s9]) (XS.store1 rfl hs7 rfl) ?_
  refine XS.aload X101.here hx rfl (hb hby d46_198) rfl rfl ?_
  show own_S p e below T101 m 200 _ [(.ref it_101)] _
  refine st104.trans ?_
  show own_S p e below T104 m 205 _ [(.int 1)] _
  refine XS.ifNo X104.here hx rfl (hb hby d46_205) rfl ((if0 _ _).trans (feq (by decide : ¬ ((1 : Int32) = (0 : Int32)))).1) ?_
  refine XS.aload X104.here hx rfl (hb hby d46_208) rfl rfl ?_
  show own_S p e below T104 m 210 _ [(.ref it_101)] _
  refine st107.trans ?_
  show own_S p e below T107 m 215 _ [(.ref x0)] _
  refine st111 _ ?_
  show own_S p e below T111 m 218 _ [(.ref x0)] _
  refine st115.trans ?_
  show own_S p e below T115 m 221 #[oR r0, oR r1, oI pi, oR it3, oR o4, oR it5, oR l6, oR it_101, s8, s9] [(.double e0v)] _
  refine XS.dstore X115.here hx rfl (hb hby d46_221) rfl (l' := #[oR r0, oR r1, oI pi, oR it3, oR o4, oR it5, oR l6, oR it_101, oD e0v, oV]) (own_st8 h89) ?_
  refine XS.aloadN X115.here hx rfl (hb hby d46_223) rfl rfl ?_
  show own_S p e below T115 m 224 _ [(.ref r0)] _
  refine st119 _ ?_
  show own_S p e below T119 m 227 _ [(.ref va)] _
  refine XS.iloadN X119.here hx rfl (hb hby d46_227) rfl ?_
  refine XS.iinc X119.here hx rfl (hb hby d46_228) rfl (l' := #[oR r0, oR r1, .val (.int (pi + (1 : Int32))), oR it3, oR o4, oR it5, oR l6, oR it_101, oD e0v, oV]) rfl ?_
  refine XS.dload X119.here hx rfl (hb hby d46_231) rfl ?_
  show own_S p e below T119 m 233 _ [(.double e0v), (.int pi), (.ref va)] _
  refine st124 _ ?_
  show own_S p e below T124 m 234 _ [] _
  refine XS.goto X124.here hx rfl (pc0 := 234) (pc' := 198) rfl (hb hby d46_234) (by decide) (by decide) ?_
  refine XS.aload X124.here hx rfl (hb hby d46_198) rfl rfl ?_
  show own_S p e below T124 m 200 _ [(.ref it_101)] _
  refine st131.trans ?_
  show own_S p e below T131 m 205 _ [(.int 1)] _
  refine XS.ifNo X131.here hx rfl (hb hby d46_205) rfl ((if0 _ _).trans (feq (by decide : ¬ ((1 : Int32) = (0 : Int32)))).1) ?_
  refine XS.aload X131.here hx rfl (hb hby d46_208) rfl rfl ?_
  show own_S p e below T131 m 210 #[oR r0, oR r1, .val (.int (pi + (1 : Int32))), oR it3, oR o4, oR it5, oR l6, oR it_101, oD e0v, oV] [(.ref it_101)] _
  refine st141.trans ?_
  show own_S p e below T141 m 215 _ [(.ref x1)] _
  refine st145 _ ?_
  show own_S p e below T145 m 218 _ [(.ref x1)] _
  refine st149.trans ?_
  show own_S p e below T149 m 221 _ [(.double e1v)] _
  refine XS.dstore X149.here hx rfl (hb hby d46_221) rfl (l' := #[oR r0, oR r1, .val (.int (pi + (1 : Int32))), oR it3, oR o4, oR it5, oR l6, oR it_101, oD e1v, oV]) rfl ?_
  refine XS.aloadN X149.here hx rfl (hb hby d46_223) rfl rfl ?_
  show own_S p e below T149 m 224 _ [(.ref r0)] _
  refine st151 _ ?_
  show own_S p e below T151 m 227 _ [(.ref va)] _
  refine XS.iloadN X151.here hx rfl (hb hby d46_227) rfl ?_
  refine XS.iinc X151.here hx rfl (hb hby d46_228) rfl (l' := #[oR r0, oR r1, .val (.int ((pi + (1 : Int32)) + (1 : Int32))), oR it3, oR o4, oR it5, oR l6, oR it_101, oD e1v, oV]) rfl ?_
  refine XS.dload X151.here hx rfl (hb hby d46_231) rfl ?_
  show own_S p e below T151 m 233 _ [(.double e1v), (.int (pi + (1 : Int32))), (.ref va)] _
  refine st155 _ ?_
  show own_S p e below T155 m 234 _ [] _
  refine XS.goto X155.here hx rfl (pc0 := 234) (pc' := 198) rfl (hb hby d46_234) (by decide) (by decide) ?_
  refine XS.aload X155.here hx rfl (hb hby d46_198) rfl rfl ?_
  show own_S p e below T155 m 200 _ [(.ref it_101)] _
  refine st162.trans ?_
  show own_S p e below T162 m 205 _ [(.int 1)] _
  refine XS.ifNo X162.here hx rfl (hb hby d46_205) rfl ((if0 _ _).trans (feq (by decide : ¬ ((1 : Int32) = (0 : Int32)))).1) ?_
  refine XS.aload X162.here hx rfl (hb hby d46_208) rfl rfl ?_
  show own_S p e below T162 m 210 #[oR r0, oR r1, .val (.int ((pi + (1 : Int32)) + (1 : Int32))), oR it3, oR o4, oR it5, oR l6, oR it_101, oD e1v, oV] [(.ref it_101)] _
  refine st168.trans ?_
  show own_S p e below T168 m 215 _ [(.ref x2)] _
  refine st172 _ ?_
  show own_S p e below T172 m 218 _ [(.ref x2)] _
  refine st176.trans ?_
  show own_S p e below T176 m 221 _ [(.double e2v)] _
  refine XS.dstore X176.here hx rfl (hb hby d46_221) rfl (l' := #[oR r0, oR r1, .val (.int ((pi + (1 : Int32)) + (1 : Int32))), oR it3, oR o4, oR it5, oR l6, oR it_101, oD e2v, oV]) rfl ?_
  refine XS.aloadN X176.here hx rfl (hb hby d46_223) rfl rfl ?_
  show own_S p e below T176 m 224 _ [(.ref r0)] _
  refine st178 _ ?_
  show own_S p e below T178 m 227 _ [(.ref va)] _
  refine XS.iloadN X178.here hx rfl (hb hby d46_227) rfl ?_
  refine XS.iinc X178.here hx rfl (hb hby d46_228) rfl (l' := #[oR r0, oR r1, .val (.int (((pi + (1 : Int32)) + (1 : Int32)) + (1 : Int32))), oR it3, oR o4, oR it5, oR l6, oR it_101, oD e2v, oV]) rfl ?_
  refine XS.dload X178.here hx rfl (hb hby d46_231) rfl ?_
  show own_S p e below T178 m 233 _ [(.double e2v), (.int ((pi + (1 : Int32)) + (1 : Int32))), (.ref va)] _
  refine st182 _ ?_
  show own_S p e below T182 m 234 _ [] _
  refine XS.goto X182.here hx rfl (pc0 := 234) (pc' := 198) rfl (hb hby d46_234) (by decide) (by decide) ?_
  refine XS.aload X182.here hx rfl (hb hby d46_198) rfl rfl ?_
  show own_S p e below T182 m 200 _ [(.ref it_101)] _
  refine st189.trans ?_
  show own_S p e below T189 m 205 _ [(.int 0)] _
  refine XS.ifYes X189.here hx rfl (pc0 := 205) (pc' := 237) rfl (hb hby d46_205) rfl ((if0 _ _).trans (teq (by decide : (0 : Int32) = (0 : Int32))).1) (by decide) (by decide) ?_
  refine XS.goto X189.here hx rfl (pc0 := 237) (pc' := 167) rfl (hb hby d46_237) (by decide) (by decide) ?_
  rw [hqi] at kt
  exact kt
theorem pd27 : parseMethodDescriptor "()Ljava/util/List;" = some ⟨[], some (.object "java/util/List")⟩ := by decide +kernel
theorem sn18 {Z : State} {a0 : Array Value} (hw : own_HW Z a0) : Jvm.RoadKit.slotOf Z kIV "instances" "I" ≠ Jvm.RoadKit.slotOf Z kIV "count" "I" := slot_ne (Or.inr (own_w hw 350 rfl)) (Or.inr (own_w hw 332 rfl)) (by decide) (t := .int) (t' := .int) (by decide) (by decide)
theorem sn19 {Z : State} {a0 : Array Value} (hw : own_HW Z a0) : Jvm.RoadKit.slotOf Z kIV "dimension" "I" ≠ Jvm.RoadKit.slotOf Z kIV "count" "I" := slot_ne (Or.inr (own_w hw 364 rfl)) (Or.inr (own_w hw 332 rfl)) (by decide) (t := .int) (t' := .int) (by decide) (by decide)
theorem sn20 {Z : State} {a0 : Array Value} (hw : own_HW Z a0) : Jvm.RoadKit.slotOf Z kIV "dimension" "I" ≠ Jvm.RoadKit.slotOf Z kIV "instances" "I" := slot_ne (Or.inr (own_w hw 364 rfl)) (Or.inr (own_w hw 350 rfl)) (by decide) (t := .int) (t' := .int) (by decide) (by decide)
theorem sn21 {Z : State} {a0 : Array Value} (hw : own_HW Z a0) : Jvm.RoadKit.slotOf Z kIV "vectors" "I" ≠ Jvm.RoadKit.slotOf Z kIV "count" "I" := slot_ne (Or.inl (own_w hw 366 rfl)) (Or.inr (own_w hw 332 rfl)) (by decide) (t := .int) (t' := .int) (by decide) (by decide)
theorem sn22 {Z : State} {a0 : Array Value} (hw : own_HW Z a0) : Jvm.RoadKit.slotOf Z kIV "vectors" "I" ≠ Jvm.RoadKit.slotOf Z kIV "instances" "I" := slot_ne (Or.inl (own_w hw 366 rfl)) (Or.inr (own_w hw 350 rfl)) (by decide) (t := .int) (t' := .int) (by decide) (by decide)
theorem sn23 {Z : State} {a0 : Array Value} (hw : own_HW Z a0) : Jvm.RoadKit.slotOf Z kIV "vectors" "I" ≠ Jvm.RoadKit.slotOf Z kIV "dimension" "I" := slot_ne (Or.inl (own_w hw 366 rfl)) (Or.inr (own_w hw 364 rfl)) (by decide) (t := .int) (t' := .int) (by decide) (by decide)
theorem pd28 : parseMethodDescriptor "(J)I" = some ⟨[.long], some .int⟩ := by decide +kernel
theorem sn24 {Z : State} {a0 : Array Value} (hw : own_HW Z a0) : Jvm.RoadKit.slotOf Z kIV "values" "[D" ≠ Jvm.RoadKit.slotOf Z kIV "count" "I" := slot_ne (Or.inl (own_w hw 372 rfl)) (Or.inr (own_w hw 332 rfl)) (by decide) (t := (.array .double)) (t' := .int) (by decide) (by decide)
theorem sn25 {Z : State} {a0 : Array Value} (hw : own_HW Z a0) : Jvm.RoadKit.slotOf Z kIV "values" "[D" ≠ Jvm.RoadKit.slotOf Z kIV "instances" "I" := slot_ne (Or.inl (own_w hw 372 rfl)) (Or.inr (own_w hw 350 rfl)) (by decide) (t := (.array .double)) (t' := .int) (by decide) (by decide)
theorem sn26 {Z : State} {a0 : Array Value} (hw : own_HW Z a0) : Jvm.RoadKit.slotOf Z kIV "values" "[D" ≠ Jvm.RoadKit.slotOf Z kIV "dimension" "I" := slot_ne (Or.inl (own_w hw 372 rfl)) (Or.inr (own_w hw 364 rfl)) (by decide) (t := (.array .double)) (t' := .int) (by decide) (by decide)
theorem sn27 {Z : State} {a0 : Array Value} (hw : own_HW Z a0) : Jvm.RoadKit.slotOf Z kIV "values" "[D" ≠ Jvm.RoadKit.slotOf Z kIV "vectors" "I" := slot_ne (Or.inl (own_w hw 372 rfl)) (Or.inl (own_w hw 366 rfl)) (by decide) (t := (.array .double)) (t' := .int) (by decide) (by decide)
theorem sn28 {Z : State} {a0 : Array Value} (hw : own_HW Z a0) : Jvm.RoadKit.slotOf Z kIV "sums" "[D" ≠ Jvm.RoadKit.slotOf Z kIV "count" "I" := slot_ne (Or.inl (own_w hw 424 rfl)) (Or.inr (own_w hw 332 rfl)) (by decide) (t := (.array .double)) (t' := .int) (by decide) (by decide)
theorem sn29 {Z : State} {a0 : Array Value} (hw : own_HW Z a0) : Jvm.RoadKit.slotOf Z kIV "sums" "[D" ≠ Jvm.RoadKit.slotOf Z kIV "instances" "I" := slot_ne (Or.inl (own_w hw 424 rfl)) (Or.inr (own_w hw 350 rfl)) (by decide) (t := (.array .double)) (t' := .int) (by decide) (by decide)
theorem sn30 {Z : State} {a0 : Array Value} (hw : own_HW Z a0) : Jvm.RoadKit.slotOf Z kIV "sums" "[D" ≠ Jvm.RoadKit.slotOf Z kIV "dimension" "I" := slot_ne (Or.inl (own_w hw 424 rfl)) (Or.inr (own_w hw 364 rfl)) (by decide) (t := (.array .double)) (t' := .int) (by decide) (by decide)
theorem sn31 {Z : State} {a0 : Array Value} (hw : own_HW Z a0) : Jvm.RoadKit.slotOf Z kIV "sums" "[D" ≠ Jvm.RoadKit.slotOf Z kIV "vectors" "I" := slot_ne (Or.inl (own_w hw 424 rfl)) (Or.inl (own_w hw 366 rfl)) (by decide) (t := (.array .double)) (t' := .int) (by decide) (by decide)
theorem sn32 {Z : State} {a0 : Array Value} (hw : own_HW Z a0) : Jvm.RoadKit.slotOf Z kIV "sums" "[D" ≠ Jvm.RoadKit.slotOf Z kIV "values" "[D" := slot_ne (Or.inl (own_w hw 424 rfl)) (Or.inl (own_w hw 372 rfl)) (by decide) (t := (.array .double)) (t' := (.array .double)) (by decide) (by decide)
theorem pd29 : parseMethodDescriptor "(I)D" = some ⟨[.int], some .double⟩ := by decide +kernel
theorem own_selP {Z : State} {a0 : Array Value} {y y2 : MethodName} (hs : (Jvm.Cond.selects y2.cls y2 y2).before a0 Z = true) (hcls : y2.cls = y.cls) (hp : (Jvm.Cond.privateMethod y).before a0 Z = true) (hi : (Jvm.Cond.instanceMethod y).before a0 Z = true) (hy : y.cls ≠ "java/lang/invoke/MethodHandle" ∧ y.cls ≠ "java/lang/invoke/VarHandle") : (Jvm.Cond.selects y.cls y y).before a0 Z = true := by
  obtain ⟨c2, r2, m2, -, -, q3, -, kP, hkP, hkPi⟩ := Cond.selects_spec hs
  have hc := findClass_of_methodNamed q3
  rw [hcls] at hc
  exact Jvm.Stand.selects_self_of_private hc hkP hkPi (Cond.privateMethod_at hp) hi hy
theorem d46_0 : decode k46 0 = .ok (.aload_n 0, 1) := by decide +kernel
theorem d46_1 : decode k46 1 = .ok (.invokespecial 1, 3) := by decide +kernel
theorem d46_4 : decode k46 4 = .ok (.aload_n 0, 1) := by decide +kernel
theorem d46_5 : decode k46 5 = .ok (.aload_n 1, 1) := by decide +kernel
theorem d46_6 : decode k46 6 = .ok (.invokeinterface 7 1, 5) := by decide +kernel
theorem d46_11 : decode k46 11 = .ok (.putfield 13, 3) := by decide +kernel
theorem d46_14 : decode k46 14 = .ok (.aload_n 0, 1) := by decide +kernel
theorem d46_15 : decode k46 15 = .ok (.aload_n 1, 1) := by decide +kernel
theorem d46_16 : decode k46 16 = .ok (.invokeinterface 19 1, 5) := by decide +kernel
theorem d46_21 : decode k46 21 = .ok (.ifCond .eq 7, 3) := by decide +kernel
theorem d46_28 : decode k46 28 = .ok (.aload_n 1, 1) := by decide +kernel
theorem d46_29 : decode k46 29 = .ok (.iconst 0, 1) := by decide +kernel
theorem d46_30 : decode k46 30 = .ok (.invokeinterface 23 2, 5) := by decide +kernel
theorem d46_35 : decode k46 35 = .ok (.checkcast 27, 3) := by decide +kernel
theorem d46_38 : decode k46 38 = .ok (.invokevirtual 29, 3) := by decide +kernel
theorem d46_41 : decode k46 41 = .ok (.invokeinterface 7 1, 5) := by decide +kernel
theorem d46_46 : decode k46 46 = .ok (.putfield 33, 3) := by decide +kernel
theorem d46_49 : decode k46 49 = .ok (.aload_n 0, 1) := by decide +kernel
theorem d46_50 : decode k46 50 = .ok (.aload_n 1, 1) := by decide +kernel
theorem d46_51 : decode k46 51 = .ok (.invokeinterface 19 1, 5) := by decide +kernel
theorem d46_56 : decode k46 56 = .ok (.ifCond .eq 7, 3) := by decide +kernel
theorem d46_63 : decode k46 63 = .ok (.aload_n 1, 1) := by decide +kernel
theorem d46_64 : decode k46 64 = .ok (.iconst 0, 1) := by decide +kernel
theorem d46_65 : decode k46 65 = .ok (.invokeinterface 23 2, 5) := by decide +kernel
theorem d46_70 : decode k46 70 = .ok (.checkcast 27, 3) := by decide +kernel
theorem d46_73 : decode k46 73 = .ok (.invokevirtual 29, 3) := by decide +kernel
theorem d46_76 : decode k46 76 = .ok (.iconst 0, 1) := by decide +kernel
theorem d46_77 : decode k46 77 = .ok (.invokeinterface 23 2, 5) := by decide +kernel
theorem d46_82 : decode k46 82 = .ok (.checkcast 8, 3) := by decide +kernel
theorem d46_85 : decode k46 85 = .ok (.invokeinterface 7 1, 5) := by decide +kernel
theorem d46_90 : decode k46 90 = .ok (.putfield 36, 3) := by decide +kernel
theorem d46_93 : decode k46 93 = .ok (.aload_n 0, 1) := by decide +kernel
theorem d46_94 : decode k46 94 = .ok (.aload_n 0, 1) := by decide +kernel
theorem d46_95 : decode k46 95 = .ok (.getfield 13, 3) := by decide +kernel
theorem d46_98 : decode k46 98 = .ok (.aload_n 0, 1) := by decide +kernel
theorem d46_99 : decode k46 99 = .ok (.getfield 33, 3) := by decide +kernel
theorem d46_102 : decode k46 102 = .ok (.imul, 1) := by decide +kernel
theorem d46_103 : decode k46 103 = .ok (.putfield 39, 3) := by decide +kernel
theorem d46_106 : decode k46 106 = .ok (.aload_n 0, 1) := by decide +kernel
theorem d46_107 : decode k46 107 = .ok (.aload_n 0, 1) := by decide +kernel
theorem d46_108 : decode k46 108 = .ok (.getfield 39, 3) := by decide +kernel
theorem d46_111 : decode k46 111 = .ok (.i2l, 1) := by decide +kernel
theorem d46_112 : decode k46 112 = .ok (.aload_n 0, 1) := by decide +kernel
theorem d46_113 : decode k46 113 = .ok (.getfield 36, 3) := by decide +kernel
theorem d46_116 : decode k46 116 = .ok (.i2l, 1) := by decide +kernel
theorem d46_117 : decode k46 117 = .ok (.lmul, 1) := by decide +kernel
theorem d46_118 : decode k46 118 = .ok (.invokestatic 41, 3) := by decide +kernel
theorem d46_121 : decode k46 121 = .ok (.newarray .double, 2) := by decide +kernel
theorem d46_123 : decode k46 123 = .ok (.putfield 47, 3) := by decide +kernel
theorem d46_126 : decode k46 126 = .ok (.iconst 0, 1) := by decide +kernel
theorem d46_127 : decode k46 127 = .ok (.istore_n 2, 1) := by decide +kernel
theorem d46_128 : decode k46 128 = .ok (.aload_n 1, 1) := by decide +kernel
theorem d46_129 : decode k46 129 = .ok (.invokeinterface 51 1, 5) := by decide +kernel
theorem d46_134 : decode k46 134 = .ok (.astore_n 3, 1) := by decide +kernel
theorem d46_135 : decode k46 135 = .ok (.aload_n 3, 1) := by decide +kernel
theorem d46_136 : decode k46 136 = .ok (.invokeinterface 55 1, 5) := by decide +kernel
theorem d46_141 : decode k46 141 = .ok (.ifCond .eq 102, 3) := by decide +kernel
theorem d46_144 : decode k46 144 = .ok (.aload_n 3, 1) := by decide +kernel
theorem d46_145 : decode k46 145 = .ok (.invokeinterface 60 1, 5) := by decide +kernel
theorem d46_150 : decode k46 150 = .ok (.checkcast 27, 3) := by decide +kernel
theorem d46_153 : decode k46 153 = .ok (.astore 4, 2) := by decide +kernel
theorem d46_155 : decode k46 155 = .ok (.aload 4, 2) := by decide +kernel
theorem d46_157 : decode k46 157 = .ok (.invokevirtual 29, 3) := by decide +kernel
theorem d46_160 : decode k46 160 = .ok (.invokeinterface 51 1, 5) := by decide +kernel
theorem d46_165 : decode k46 165 = .ok (.astore 5, 2) := by decide +kernel
theorem d46_167 : decode k46 167 = .ok (.aload 5, 2) := by decide +kernel
theorem d46_169 : decode k46 169 = .ok (.invokeinterface 55 1, 5) := by decide +kernel
theorem d46_174 : decode k46 174 = .ok (.ifCond .eq 66, 3) := by decide +kernel
theorem d46_177 : decode k46 177 = .ok (.aload 5, 2) := by decide +kernel
theorem d46_179 : decode k46 179 = .ok (.invokeinterface 60 1, 5) := by decide +kernel
theorem d46_184 : decode k46 184 = .ok (.checkcast 8, 3) := by decide +kernel
theorem d46_187 : decode k46 187 = .ok (.astore 6, 2) := by decide +kernel
theorem d46_240 : decode k46 240 = .ok (.goto (-105), 3) := by decide +kernel
theorem d46_243 : decode k46 243 = .ok (.aload_n 0, 1) := by decide +kernel
theorem d46_244 : decode k46 244 = .ok (.aload_n 0, 1) := by decide +kernel
theorem d46_245 : decode k46 245 = .ok (.getfield 39, 3) := by decide +kernel
theorem d46_248 : decode k46 248 = .ok (.newarray .double, 2) := by decide +kernel
theorem d46_250 : decode k46 250 = .ok (.putfield 70, 3) := by decide +kernel
theorem d46_253 : decode k46 253 = .ok (.iconst 0, 1) := by decide +kernel
theorem d46_254 : decode k46 254 = .ok (.istore_n 3, 1) := by decide +kernel
theorem d46_255 : decode k46 255 = .ok (.iload_n 3, 1) := by decide +kernel
theorem d46_256 : decode k46 256 = .ok (.aload_n 0, 1) := by decide +kernel
theorem d46_257 : decode k46 257 = .ok (.getfield 39, 3) := by decide +kernel
theorem d46_260 : decode k46 260 = .ok (.if_icmp .ge 20, 3) := by decide +kernel
theorem d46_263 : decode k46 263 = .ok (.aload_n 0, 1) := by decide +kernel
theorem d46_264 : decode k46 264 = .ok (.getfield 70, 3) := by decide +kernel
theorem d46_267 : decode k46 267 = .ok (.iload_n 3, 1) := by decide +kernel
theorem d46_268 : decode k46 268 = .ok (.aload_n 0, 1) := by decide +kernel
theorem d46_269 : decode k46 269 = .ok (.iload_n 3, 1) := by decide +kernel
theorem d46_270 : decode k46 270 = .ok (.invokevirtual 73, 3) := by decide +kernel
theorem d46_273 : decode k46 273 = .ok (.dastore, 1) := by decide +kernel
theorem d46_274 : decode k46 274 = .ok (.iinc 3 1, 3) := by decide +kernel
theorem d46_277 : decode k46 277 = .ok (.goto (-22), 3) := by decide +kernel
theorem d46_280 : decode k46 280 = .ok (.return_, 1) := by decide +kernel
theorem efm46 (m : MethodId) (r0 : Addr) (r1 : Addr) : entryFrame m #[(.ref r0), (.ref r1)] 10 = mkF m 0 #[oR r0, oR r1, oU, oU, oU, oU, oU, oU, oU, oU] [] := by first | (simp [entryFrame, mkF, argsToLocals, Value.category]; done) | rfl
def Qm46 (Z : State) (r0 : Addr) (r1 : Addr) (w0 : Value) (w1 : Value) (w2 : Value) (w3 : Value) (w4 : Value) (w5 : Value) (wn0 : Value) (wn1 : Value) (el : Addr) (em : Addr) (o0 : Addr) (o1 : Addr) (L0 : Addr) (L1 : Addr) (N00 : Addr) (N01 : Addr) (N10 : Addr) (N11 : Addr) (A00 : Addr) (A01 : Addr) (A10 : Addr) (A11 : Addr) (x000 : Addr) (x001 : Addr) (x002 : Addr) (x010 : Addr) (x011 : Addr) (x012 : Addr) (x100 : Addr) (x101 : Addr) (x102 : Addr) (x110 : Addr) (x111 : Addr) (x112 : Addr) (kel : ClassId) (kA00 : ClassId) (kA01 : ClassId) (kA10 : ClassId) (kA11 : ClassId) (d000 : UInt64) (d001 : UInt64) (d002 : UInt64) (d010 : UInt64) (d011 : UInt64) (d012 : UInt64) (d100 : UInt64) (d101 : UInt64) (d102 : UInt64) (d110 : UInt64) (d111 : UInt64) (d112 : UInt64) (h0 : Heap) (n0 : Nat) (v : Option Value) (h : Heap) (L : List Loc) : Prop := ∃ va : Addr, ∃ kva : ClassId, v = none ∧ Fr n0 L ∧ (Keep h0 h [r0]) ∧ (h0.size ≤ va) ∧ (Fld Z h r0 kIV "values" "[D" (.ref va)) ∧ (Fld Z h r0 kIV "dimension" "I" (.int 3)) ∧ (Arv Z h va kva .double (12 : Int32) [(.double d000), (.double d001), (.double d002), (.double d010), (.double d011), (.double d012), (.double d100), (.double d101), (.double d102), (.double d110), (.double d111), (.double d112)] (.double 0)) ∧ (Exa Z h va "[D")
set_option maxRecDepth 65536 in
set_option maxHeartbeats 40000000 in
theorem rmm46 (l : Launch) (Z : State) (a0 : Array Value) (hw : own_HW Z a0) (ws : List Jvm.Cond) (r0 : Addr) (r1 : Addr) (w0 : Value) (w1 : Value) (w2 : Value) (w3 : Value) (w4 : Value) (w5 : Value) (wn0 : Value) (wn1 : Value) (el : Addr) (em : Addr) (o0 : Addr) (o1 : Addr) (L0 : Addr) (L1 : Addr) (N00 : Addr) (N01 : Addr) (N10 : Addr) (N11 : Addr) (A00 : Addr) (A01 : Addr) (A10 : Addr) (A11 : Addr) (x000 : Addr) (x001 : Addr) (x002 : Addr) (x010 : Addr) (x011 : Addr) (x012 : Addr) (x100 : Addr) (x101 : Addr) (x102 : Addr) (x110 : Addr) (x111 : Addr) (x112 : Addr) (kel : ClassId) (kA00 : ClassId) (kA01 : ClassId) (kA10 : ClassId) (kA11 : ClassId) (d000 : UInt64) (d001 : UInt64) (d002 : UInt64) (d010 : UInt64) (d011 : UInt64) (d012 : UInt64) (d100 : UInt64) (d101 : UInt64) (d102 : UInt64) (d110 : UInt64) (d111 : UInt64) (d112 : UInt64) (h0 : Heap) (n0 : Nat) (Z0 : n0 ≤ h0.size) (E_r0 : Exa Z h0 r0 kIV) (g_r0 : n0 ≤ r0) (F_count_r0 : Fld Z h0 r0 kIV "count" "I" w0) (F_instances_r0 : Fld Z h0 r0 kIV "instances" "I" w1) (F_dimension_r0 : Fld Z h0 r0 kIV "dimension" "I" w2) (F_vectors_r0 : Fld Z h0 r0 kIV "vectors" "I" w3) (F_values_r0 : Fld Z h0 r0 kIV "values" "[D" w4) (F_sums_r0 : Fld Z h0 r0 kIV "sums" "[D" w5) (E_r1 : Exa Z h0 r1 kAL) (F_elementData_r1 : Fld Z h0 r1 kAL "elementData" kOA (.ref el)) (F_size_r1 : Fld Z h0 r1 kAL "size" "I" (.int 2)) (F_modCount_r1 : Fld Z h0 r1 kABL "modCount" "I" (.int 2)) (V_el : Arv Z h0 el kel (.object kOB) (10 : Int32) [(.ref o0), (.ref o1), .null, .null] .null) (E_el : Exa Z h0 el kOA) (E_o0 : Exa Z h0 o0 kMO) (F_name_o0 : Fld Z h0 o0 kMO "name" "Ljava/lang/String;" wn0) (F_vectors_o0 : Fld Z h0 o0 kMO "vectors" "Ljava/util/List;" (.ref L0)) (E_L0 : Exa Z h0 L0 kL12) (F_e0_L0 : Fld Z h0 L0 kL12 "e0" "Ljava/lang/Object;" (.ref N00)) (F_e1_L0 : Fld Z h0 L0 kL12 "e1" "Ljava/lang/Object;" (.ref N01)) (E_N00 : Exa Z h0 N00 kLN) (F_elements_N00 : Fld Z h0 N00 kLN "elements" kOA (.ref A00)) (F_allowNulls_N00 : Fld Z h0 N00 kLN "allowNulls" "Z" (.int 0)) (V_A00 : Arv Z h0 A00 kA00 (.object kOB) (3 : Int32) [(.ref x000), (.ref x001), (.ref x002)] .null) (E_A00 : Exa Z h0 A00 kOA) (E_N01 : Exa Z h0 N01 kLN) (F_elements_N01 : Fld Z h0 N01 kLN "elements" kOA (.ref A01)) (F_allowNulls_N01 : Fld Z h0 N01 kLN "allowNulls" "Z" (.int 0)) (V_A01 : Arv Z h0 A01 kA01 (.object kOB) (3 : Int32) [(.ref x010), (.ref x011), (.ref x012)] .null) (E_A01 : Exa Z h0 A01 kOA) (E_o1 : Exa Z h0 o1 kMO) (F_name_o1 : Fld Z h0 o1 kMO "name" "Ljava/lang/String;" wn1) (F_vectors_o1 : Fld Z h0 o1 kMO "vectors" "Ljava/util/List;" (.ref L1)) (E_L1 : Exa Z h0 L1 kL12) (F_e0_L1 : Fld Z h0 L1 kL12 "e0" "Ljava/lang/Object;" (.ref N10)) (F_e1_L1 : Fld Z h0 L1 kL12 "e1" "Ljava/lang/Object;" (.ref N11)) (E_N10 : Exa Z h0 N10 kLN) (F_elements_N10 : Fld Z h0 N10 kLN "elements" kOA (.ref A10)) (F_allowNulls_N10 : Fld Z h0 N10 kLN "allowNulls" "Z" (.int 0)) (V_A10 : Arv Z h0 A10 kA10 (.object kOB) (3 : Int32) [(.ref x100), (.ref x101), (.ref x102)] .null) (E_A10 : Exa Z h0 A10 kOA) (E_N11 : Exa Z h0 N11 kLN) (F_elements_N11 : Fld Z h0 N11 kLN "elements" kOA (.ref A11)) (F_allowNulls_N11 : Fld Z h0 N11 kLN "allowNulls" "Z" (.int 0)) (V_A11 : Arv Z h0 A11 kA11 (.object kOB) (3 : Int32) [(.ref x110), (.ref x111), (.ref x112)] .null) (E_A11 : Exa Z h0 A11 kOA) (E_x000 : Exa Z h0 x000 kDB) (F_value_x000 : Fld Z h0 x000 kDB "value" "D" (.double d000)) (E_x001 : Exa Z h0 x001 kDB) (F_value_x001 : Fld Z h0 x001 kDB "value" "D" (.double d001)) (E_x002 : Exa Z h0 x002 kDB) (F_value_x002 : Fld Z h0 x002 kDB "value" "D" (.double d002)) (E_x010 : Exa Z h0 x010 kDB) (F_value_x010 : Fld Z h0 x010 kDB "value" "D" (.double d010)) (E_x011 : Exa Z h0 x011 kDB) (F_value_x011 : Fld Z h0 x011 kDB "value" "D" (.double d011)) (E_x012 : Exa Z h0 x012 kDB) (F_value_x012 : Fld Z h0 x012 kDB "value" "D" (.double d012)) (E_x100 : Exa Z h0 x100 kDB) (F_value_x100 : Fld Z h0 x100 kDB "value" "D" (.double d100)) (E_x101 : Exa Z h0 x101 kDB) (F_value_x101 : Fld Z h0 x101 kDB "value" "D" (.double d101)) (E_x102 : Exa Z h0 x102 kDB) (F_value_x102 : Fld Z h0 x102 kDB "value" "D" (.double d102)) (E_x110 : Exa Z h0 x110 kDB) (F_value_x110 : Fld Z h0 x110 kDB "value" "D" (.double d110)) (E_x111 : Exa Z h0 x111 kDB) (F_value_x111 : Fld Z h0 x111 kDB "value" "D" (.double d111)) (E_x112 : Exa Z h0 x112 kDB) (F_value_x112 : Fld Z h0 x112 kDB "value" "D" (.double d112)) (hOld : Old Z n0 h0) (S_EMPTY : Sta Z Z.heap "java/util/ImmutableCollections" "EMPTY" "Ljava/lang/Object;" (.ref em)) (E_em : Exa Z Z.heap em kOB) (ne_N01_em : N01 ≠ em) (ne_N11_em : N11 ≠ em) (ha0 : NoNaN64 (FP.dadd (0 : UInt64) d000)) (hb0_ : NoNaN64 (FP.dadd (FP.dadd (0 : UInt64) d000) d001)) (hc0_ : NoNaN64 (FP.dadd (FP.dadd (FP.dadd (0 : UInt64) d000) d001) d002)) (ha1 : NoNaN64 (FP.dadd (0 : UInt64) d010)) (hb1_ : NoNaN64 (FP.dadd (FP.dadd (0 : UInt64) d010) d011)) (hc1_ : NoNaN64 (FP.dadd (FP.dadd (FP.dadd (0 : UInt64) d010) d011) d012)) (ha2 : NoNaN64 (FP.dadd (0 : UInt64) d100)) (hb2_ : NoNaN64 (FP.dadd (FP.dadd (0 : UInt64) d100) d101)) (hc2_ : NoNaN64 (FP.dadd (FP.dadd (FP.dadd (0 : UInt64) d100) d101) d102)) (ha3 : NoNaN64 (FP.dadd (0 : UInt64) d110)) (hb3_ : NoNaN64 (FP.dadd (FP.dadd (0 : UInt64) d110) d111)) (hc3_ : NoNaN64 (FP.dadd (FP.dadd (FP.dadd (0 : UInt64) d110) d111) d112)) :
    MetFree l (⟨kIV, "<init>", "(Ljava/util/List;)V"⟩ : MethodName) (head1 (Jvm.Cond.code (⟨kIV, "<init>", "(Ljava/util/List;)V"⟩ : MethodName) prog_26_method_1_code 10 none :: ws) ({ frames := 4, cells := 12, slots := 70, locals := 80 } : Room)) (fun a U => a = #[(.ref r0), (.ref r1)] ∧ Z.Warmed39 U.vm ∧ U.heap = h0) (fun _ _ _ _ _ => True) (fun _ U o U' => ∃ v L, o = .returned v ∧ Qm46 Z r0 r1 w0 w1 w2 w3 w4 w5 wn0 wn1 el em o0 o1 L0 L1 N00 N01 N10 N11 A00 A01 A10 A11 x000 x001 x002 x010 x011 x012 x100 x101 x102 x110 x111 x112 kel kA00 kA01 kA10 kA11 d000 d001 d002 d010 d011 d012 d100 d101 d102 d110 d111 d112 h0 n0 v U'.heap L ∧ FrameEnd U o U' L ({ frames := 4, cells := 12, slots := 70, locals := 80 } : Room).cells ({ frames := 4, cells := 12, slots := 70, locals := 80 } : Room).slots) := by
  refine MetFree.of_bodySF (plainFor_of_name pn18) hisR ?_
  intro p e s m args below meth c s₁ Bd hml0 hP hK
  obtain ⟨rfl, hZ, hh⟩ := hP
  have hx := Bd.exec
  have hby := Bd.bytes
  have hml : c.maxLocals = 10 := hml0
  have hown : s.vm.findClass kIV = some m.cls := findClass_of_methodNamed Bd.named
  have hnm := (name_of_methodNamed Bd.named Bd.method).1
  have X0 : Stand p l e ({ frames := 4, cells := 12, slots := 70, locals := 80 } : Room) s m #[(.ref r0), (.ref r1)] below meth c s₁ [] 0 0 := Stand.of_body Bd
  have e0 : s₁.heap = h0 := by rw [← hh, Bd.state]; rfl
  have N0 := Fr.nil n0
  have pre0 : ∀ t, Steps p.tables e below (s₁.setTop (mkF m 0 #[oR r0, oR r1, oU, oU, oU, oU, oU, oU, oU, oU] [])) t → Steps p.tables e below (s₁.setTop (entryFrame m #[(.ref r0), (.ref r1)] 10)) t := fun t k => castTop (efm46 m r0 r1) k
  obtain ⟨T101, X101, e101, st101⟩ := initO X0 hx hZ hown (own_w hw 329 rfl) (own_w hw 19 rfl) (own_w hw 20 rfl) e0 (g := (mkF m 1 #[oR r0, oR r1, oU, oU, oU, oU, oU, oU, oU, oU] [(.ref r0)])) rfl (by rw [hml]; rfl) rfl (hb hby d46_1) (by decide) (W := 0) (by show 2 * 0 + _ ≤ _; exact Nat.le_of_eq rfl) (by decide)
  obtain ⟨_, T102, L102, X102, hQ102, st102⟩ := own_cI X101 hx hZ hw hown (b := r1) (W := 1) (rmm23 l Z a0 hw [] r1 (2 : Int32) h0 n0 Z0 F_size_r1) (by decide) (by decide) (by decide) 330 rfl 143 rfl 144 rfl 145 rfl 146 rfl 147 rfl 148 rfl 59 rfl 149 rfl 2 rfl e101 E_r1 (g := (mkF m 6 #[oR r0, oR r1, oU, oU, oU, oU, oU, oU, oU, oU] [(.ref r1), (.ref r0)])) rfl (by rw [hml]; rfl) (argsL := []) (rest := [(.ref r0)]) (lenOf pd19 rfl) rfl (Nat.le_of_eq rfl) (hb hby d46_6) rfl (cN := 0) rfl (by decide) (sN := 0) rfl (by decide)
  obtain ⟨rfl, Nq102, P102_0⟩ := hQ102
  have N102 := Fr.app N0 Nq102
  obtain ⟨T103, h103, X103, e103, W103, st103⟩ := putF X102 hx hZ hown (host := "") (Or.inl (own_w hw 331 rfl)) Via.refl P102_0 F_count_r0 E_r0 (Or.inr ⟨(own_w hw 332 rfl), rfl, hnm⟩) (own_w hw 324 rfl) (ty := .int) (by decide) rfl rfl (g := (mkF m 11 #[oR r0, oR r1, oU, oU, oU, oU, oU, oU, oU, oU] [(.int 2), (.ref r0)])) rfl rfl (hb hby d46_11)
  have Fw103 := F_count_r0.same W103
  have N103 := Fr.snoc X103 N102 g_r0
  have ZZ104 : n0 ≤ h103.size := Nat.le_trans Z0 (Nat.le_of_eq W103.size.symm)
  have KK105 : Keep h0 h103 [r0] := (Keep.refl h0 [r0]).wr W103 (Or.inl (List.mem_of_getElem? (i := 0) rfl))
  have nq106 : r1 ≠ r0 := (ne_exa (E_r1.wr W103) (E_r0.wr W103) (by decide))
  have Fc107 := (F_size_r1.other W103 (Or.inl nq106))
  obtain ⟨_, T108, L108, X108, hQ108, st108⟩ := own_cI X103 hx hZ hw hown (b := r1) (W := 1) (rmm18 l Z a0 hw [] r1 (2 : Int32) h103 n0 ZZ104 Fc107 (by decide)) (by decide) (by decide) (by decide) 333 rfl 114 rfl 115 rfl 116 rfl 117 rfl 118 rfl 119 rfl 59 rfl 120 rfl 2 rfl e103 (E_r1.wr W103) (g := (mkF m 16 #[oR r0, oR r1, oU, oU, oU, oU, oU, oU, oU, oU] [(.ref r1), (.ref r0)])) rfl (by rw [hml]; rfl) (argsL := []) (rest := [(.ref r0)]) (lenOf pd15 rfl) rfl (Nat.le_of_eq rfl) (hb hby d46_16) rfl (cN := 0) rfl (by decide) (sN := 0) rfl (by decide)
  obtain ⟨rfl, Nq108, P108_0⟩ := hQ108
  have N108 := Fr.app N103 Nq108
  have Fc109 := (F_elementData_r1.other W103 (Or.inl nq106))
  have nq110 : el ≠ r0 := (ne_exa (E_el.wr W103) (E_r0.wr W103) (by decide))
  obtain ⟨_, T111, L111, X111, hQ111, st111⟩ := own_cI X108 hx hZ hw hown (b := r1) (W := 1) (rmm19 l Z a0 hw [] r1 el o0 kel (10 : Int32) [(.ref o0), (.ref o1), .null, .null] (2 : Int32) h103 n0 ZZ104 Fc109 (V_el.other W103 nq110) (⟨by decide, by decide⟩) rfl Fc107 (by decide) (E_r1.wr W103)) (by decide) (by decide) (by decide) 334 rfl 122 rfl 123 rfl 124 rfl 125 rfl 126 rfl 127 rfl 59 rfl 128 rfl 2 rfl P108_0 (E_r1.wr W103) (g := (mkF m 30 #[oR r0, oR r1, oU, oU, oU, oU, oU, oU, oU, oU] [(.int 0), (.ref r1), (.ref r0)])) rfl (by rw [hml]; rfl) (argsL := [(.int 0)]) (rest := [(.ref r0)]) (lenOf pd7 rfl) rfl (Nat.le_of_eq rfl) (hb hby d46_30) rfl (cN := 0) rfl (by decide) (sN := 0) rfl (by decide)
  obtain ⟨rfl, Nq111, P111_0⟩ := hQ111
  have N111 := Fr.app N108 Nq111
  obtain ⟨T112, X112, e112, st112⟩ := castY X111 hx hZ hown (own_w hw 335 rfl) P111_0 (Ins.self (E_o0.wr W103)) (g := (mkF m 35 #[oR r0, oR r1, oU, oU, oU, oU, oU, oU, oU, oU] [(.ref o0), (.ref r0)])) rfl rfl (hb hby d46_35)
  have nq113 : o0 ≠ r0 := (ne_exa (E_o0.wr W103) (E_r0.wr W103) (by decide))
  have Fc114 := (F_name_o0.other W103 (Or.inl nq113))
  have Fc115 := (F_vectors_o0.other W103 (Or.inl nq113))
  obtain ⟨_, T116, L116, X116, hQ116, st116⟩ := own_cV X112 hx hZ hw hown (b := o0) (W := 1) (rmm47 l Z a0 hw [] o0 L0 wn0 h103 n0 ZZ104 Fc114 Fc115) (by decide) (by decide) (by decide) 337 rfl 338 rfl 340 rfl 339 rfl 341 rfl 90 rfl e112 (E_o0.wr W103) (g := (mkF m 38 #[oR r0, oR r1, oU, oU, oU, oU, oU, oU, oU, oU] [(.ref o0), (.ref r0)])) rfl (by rw [hml]; rfl) (argsL := []) (rest := [(.ref r0)]) (lenOf pd27 rfl) rfl (Nat.le_of_eq rfl) (hb hby d46_38) rfl (cN := 0) rfl (by decide) (sN := 0) rfl (by decide)
  obtain ⟨rfl, Nq116, P116_0⟩ := hQ116
  have N116 := Fr.app N111 Nq116
  have nq117 : L0 ≠ r0 := (ne_exa (E_L0.wr W103) (E_r0.wr W103) (by decide))
  have Fc118 := (F_e0_L0.other W103 (Or.inl nq117))
  have Fc119 := (F_e1_L0.other W103 (Or.inl nq117))
  obtain ⟨_, T120, L120, X120, hQ120, st120⟩ := own_cI X116 hx hZ hw hown (b := L0) (W := 1) (rmm48 l Z a0 hw [] L0 N00 N01 em h103 n0 ZZ104 Fc118 Fc119 (hOld.wr W103 g_r0) S_EMPTY E_em ne_N01_em) (by decide) (by decide) (by decide) 330 rfl 143 rfl 144 rfl 342 rfl 343 rfl 344 rfl 345 rfl 346 rfl 347 rfl 303 rfl P116_0 (E_L0.wr W103) (g := (mkF m 41 #[oR r0, oR r1, oU, oU, oU, oU, oU, oU, oU, oU] [(.ref L0), (.ref r0)])) rfl (by rw [hml]; rfl) (argsL := []) (rest := [(.ref r0)]) (lenOf pd19 rfl) rfl (Nat.le_of_eq rfl) (hb hby d46_41) rfl (cN := 0) rfl (by decide) (sN := 0) rfl (by decide)
  obtain ⟨rfl, Nq120, P120_0⟩ := hQ120
  have N120 := Fr.app N116 Nq120
  have Fc121 := (F_instances_r0.other W103 (Or.inr (sn18 hw)))
  obtain ⟨T122, h122, X122, e122, W122, st122⟩ := putF X120 hx hZ hown (host := "") (Or.inl (own_w hw 349 rfl)) Via.refl P120_0 Fc121 (E_r0.wr W103) (Or.inr ⟨(own_w hw 350 rfl), rfl, hnm⟩) (own_w hw 324 rfl) (ty := .int) (by decide) rfl rfl (g := (mkF m 46 #[oR r0, oR r1, oU, oU, oU, oU, oU, oU, oU, oU] [(.int 2), (.ref r0)])) rfl rfl (hb hby d46_46)
  have Fw122 := Fc121.same W122
  have N122 := Fr.snoc X122 N120 g_r0
  have ZZ123 : n0 ≤ h122.size := Nat.le_trans ZZ104 (Nat.le_of_eq W122.size.symm)
  have KK124 : Keep h0 h122 [r0] := KK105.wr W122 (Or.inl (List.mem_of_getElem? (i := 0) rfl))
  have Fc125 := (Fc107.other W122 (Or.inl nq106))
  have Fc127 := (E_r1.keep KK124)
  obtain ⟨_, T126, L126, X126, hQ126, st126⟩ := own_cI X122 hx hZ hw hown (b := r1) (W := 1) (rmm18 l Z a0 hw [] r1 (2 : Int32) h122 n0 ZZ123 Fc125 (by decide)) (by decide) (by decide) (by decide) 333 rfl 114 rfl 115 rfl 116 rfl 117 rfl 118 rfl 119 rfl 59 rfl 120 rfl 2 rfl e122 Fc127 (g := (mkF m 51 #[oR r0, oR r1, oU, oU, oU, oU, oU, oU, oU, oU] [(.ref r1), (.ref r0)])) rfl (by rw [hml]; rfl) (argsL := []) (rest := [(.ref r0)]) (lenOf pd15 rfl) rfl (Nat.le_of_eq rfl) (hb hby d46_51) rfl (cN := 0) rfl (by decide) (sN := 0) rfl (by decide)
  obtain ⟨rfl, Nq126, P126_0⟩ := hQ126
  have N126 := Fr.app N122 Nq126
  have Fc128 := (Fc109.other W122 (Or.inl nq106))
  have Fc129 := (V_el.keep KK124 (ninS nq110 nin0))
  obtain ⟨_, T130, L130, X130, hQ130, st130⟩ := own_cI X126 hx hZ hw hown (b := r1) (W := 1) (rmm19 l Z a0 hw [] r1 el o0 kel (10 : Int32) [(.ref o0), (.ref o1), .null, .null] (2 : Int32) h122 n0 ZZ123 Fc128 Fc129 (⟨by decide, by decide⟩) rfl Fc125 (by decide) Fc127) (by decide) (by decide) (by decide) 334 rfl 122 rfl 123 rfl 124 rfl 125 rfl 126 rfl 127 rfl 59 rfl 128 rfl 2 rfl P126_0 Fc127 (g := (mkF m 65 #[oR r0, oR r1, oU, oU, oU, oU, oU, oU, oU, oU] [(.int 0), (.ref r1), (.ref r0)])) rfl (by rw [hml]; rfl) (argsL := [(.int 0)]) (rest := [(.ref r0)]) (lenOf pd7 rfl) rfl (Nat.le_of_eq rfl) (hb hby d46_65) rfl (cN := 0) rfl (by decide) (sN := 0) rfl (by decide)
  obtain ⟨rfl, Nq130, P130_0⟩ := hQ130
  have N130 := Fr.app N126 Nq130
  have Fc131 := (E_o0.keep KK124)
  obtain ⟨T132, X132, e132, st132⟩ := castY X130 hx hZ hown (own_w hw 335 rfl) P130_0 (Ins.self Fc131) (g := (mkF m 70 #[oR r0, oR r1, oU, oU, oU, oU, oU, oU, oU, oU] [(.ref o0), (.ref r0)])) rfl rfl (hb hby d46_70)
  have Fc133 := (Fc114.other W122 (Or.inl nq113))
  have Fc134 := (Fc115.other W122 (Or.inl nq113))
  obtain ⟨_, T135, L135, X135, hQ135, st135⟩ := own_cV X132 hx hZ hw hown (b := o0) (W := 1) (rmm47 l Z a0 hw [] o0 L0 wn0 h122 n0 ZZ123 Fc133 Fc134) (by decide) (by decide) (by decide) 337 rfl 338 rfl 340 rfl 339 rfl 341 rfl 90 rfl e132 Fc131 (g := (mkF m 73 #[oR r0, oR r1, oU, oU, oU, oU, oU, oU, oU, oU] [(.ref o0), (.ref r0)])) rfl (by rw [hml]; rfl) (argsL := []) (rest := [(.ref r0)]) (lenOf pd27 rfl) rfl (Nat.le_of_eq rfl) (hb hby d46_73) rfl (cN := 0) rfl (by decide) (sN := 0) rfl (by decide)
  obtain ⟨rfl, Nq135, P135_0⟩ := hQ135
  have N135 := Fr.app N130 Nq135
  have Fc136 := (Fc118.other W122 (Or.inl nq117))
  have Fc137 := (Fc119.other W122 (Or.inl nq117))
  have Ol138 := ((hOld.wr W103 g_r0).wr W122 g_r0)
  have Fc140 := (E_L0.keep KK124)
  obtain ⟨_, T139, L139, X139, hQ139, st139⟩ := own_cI X135 hx hZ hw hown (b := L0) (W := 1) (rm_g12_0 l Z a0 hw [] L0 N00 N01 em h122 n0 ZZ123 Fc136 Fc137 Ol138 S_EMPTY E_em ne_N01_em) (by decide) (by decide) (by decide) 334 rfl 122 rfl 123 rfl 351 rfl 352 rfl 353 rfl 354 rfl 346 rfl 355 rfl 303 rfl P135_0 Fc140 (g := (mkF m 77 #[oR r0, oR r1, oU, oU, oU, oU, oU, oU, oU, oU] [(.int 0), (.ref L0), (.ref r0)])) rfl (by rw [hml]; rfl) (argsL := [(.int 0)]) (rest := [(.ref r0)]) (lenOf pd7 rfl) rfl (Nat.le_of_eq rfl) (hb hby d46_77) rfl (cN := 0) rfl (by decide) (sN := 0) rfl (by decide)
  obtain ⟨rfl, Nq139, P139_0⟩ := hQ139
  have N139 := Fr.app N135 Nq139
  have Fc141 := (E_N00.keep KK124)
  obtain ⟨T142, X142, e142, st142⟩ := castY X139 hx hZ hown (own_w hw 356 rfl) P139_0 (Ins.of_exa Fc141 (own_w hw 357 rfl)) (g := (mkF m 82 #[oR r0, oR r1, oU, oU, oU, oU, oU, oU, oU, oU] [(.ref N00), (.ref r0)])) rfl rfl (hb hby d46_82)
  have nq143 : N00 ≠ r0 := (ne_exa Fc141 ((E_r0.wr W103).wr W122) (by decide))
  have Fc144 := (F_elements_N00.keep KK124 (ninS nq143 nin0))
  have Fc145 := (F_allowNulls_N00.keep KK124 (ninS nq143 nin0))
  have Fc146 := (E_A00.keep KK124)
  have nq147 : A00 ≠ r0 := (ne_exa Fc146 ((E_r0.wr W103).wr W122) (by decide))
  have Fc148 := (V_A00.keep KK124 (ninS nq147 nin0))
  obtain ⟨_, T149, L149, X149, hQ149, st149⟩ := own_cI X142 hx hZ hw hown (b := N00) (W := 1) (rmm50 l Z a0 hw [] N00 A00 x000 x001 x002 kA00 (.int 0) h122 n0 ZZ123 Fc144 Fc145 Fc148) (by decide) (by decide) (by decide) 330 rfl 143 rfl 144 rfl 358 rfl 359 rfl 360 rfl 361 rfl 357 rfl 362 rfl 276 rfl e142 Fc141 (g := (mkF m 85 #[oR r0, oR r1, oU, oU, oU, oU, oU, oU, oU, oU] [(.ref N00), (.ref r0)])) rfl (by rw [hml]; rfl) (argsL := []) (rest := [(.ref r0)]) (lenOf pd19 rfl) rfl (Nat.le_of_eq rfl) (hb hby d46_85) rfl (cN := 0) rfl (by decide) (sN := 0) rfl (by decide)
  obtain ⟨rfl, Nq149, P149_0⟩ := hQ149
  have N149 := Fr.app N139 Nq149
  have Fc150 := ((F_dimension_r0.other W103 (Or.inr (sn19 hw))).other W122 (Or.inr (sn20 hw)))
  obtain ⟨T151, h151, X151, e151, W151, st151⟩ := putF X149 hx hZ hown (host := "") (Or.inl (own_w hw 363 rfl)) Via.refl P149_0 Fc150 ((E_r0.wr W103).wr W122) (Or.inr ⟨(own_w hw 364 rfl), rfl, hnm⟩) (own_w hw 324 rfl) (ty := .int) (by decide) rfl rfl (g := (mkF m 90 #[oR r0, oR r1, oU, oU, oU, oU, oU, oU, oU, oU] [(.int 3), (.ref r0)])) rfl rfl (hb hby d46_90)
  have Fw151 := Fc150.same W151
  have N151 := Fr.snoc X151 N149 g_r0
  have ZZ152 : n0 ≤ h151.size := Nat.le_trans ZZ123 (Nat.le_of_eq W151.size.symm)
  have KK153 : Keep h0 h151 [r0] := KK124.wr W151 (Or.inl (List.mem_of_getElem? (i := 0) rfl))
  have Fc154 := ((Fw103.other W122 (Or.inr (Ne.symm (sn18 hw)))).other W151 (Or.inr (Ne.symm (sn19 hw))))
  obtain ⟨T155, X155, e155, st155⟩ := getF X151 hx hZ hown (host := "") (Or.inl (own_w hw 331 rfl)) Via.refl e151 Fc154 (g := (mkF m 95 #[oR r0, oR r1, oU, oU, oU, oU, oU, oU, oU, oU] [(.ref r0), (.ref r0)])) rfl rfl (hb hby d46_95)
  have Fc156 := (Fw122.other W151 (Or.inr (Ne.symm (sn20 hw))))
  obtain ⟨T157, X157, e157, st157⟩ := getF X155 hx hZ hown (host := "") (Or.inl (own_w hw 349 rfl)) Via.refl e155 Fc156 (g := (mkF m 99 #[oR r0, oR r1, oU, oU, oU, oU, oU, oU, oU, oU] [(.ref r0), (.int 2), (.ref r0)])) rfl rfl (hb hby d46_99)
  have Fc158 := (((F_vectors_r0.other W103 (Or.inr (sn21 hw))).other W122 (Or.inr (sn22 hw))).other W151 (Or.inr (sn23 hw)))
  have Fc159 := (((E_r0.wr W103).wr W122).wr W151)
  obtain ⟨T160, h160, X160, e160, W160, st160⟩ := putF X157 hx hZ hown (host := "") (Or.inl (own_w hw 365 rfl)) Via.refl e157 Fc158 Fc159 (Or.inl (own_w hw 366 rfl)) (own_w hw 324 rfl) (ty := .int) (by decide) rfl rfl (g := (mkF m 103 #[oR r0, oR r1, oU, oU, oU, oU, oU, oU, oU, oU] [(.int 4), (.ref r0)])) rfl rfl (hb hby d46_103)
  have Fw160 := Fc158.same W160
  have N160 := Fr.snoc X160 N151 g_r0
  have ZZ161 : n0 ≤ h160.size := Nat.le_trans ZZ152 (Nat.le_of_eq W160.size.symm)
  have KK162 : Keep h0 h160 [r0] := KK153.wr W160 (Or.inl (List.mem_of_getElem? (i := 0) rfl))
  obtain ⟨T163, X163, e163, st163⟩ := getF X160 hx hZ hown (host := "") (Or.inl (own_w hw 365 rfl)) Via.refl e160 Fw160 (g := (mkF m 108 #[oR r0, oR r1, oU, oU, oU, oU, oU, oU, oU, oU] [(.ref r0), (.ref r0)])) rfl rfl (hb hby d46_108)
  have Fc164 := (Fw151.other W160 (Or.inr (Ne.symm (sn23 hw))))
  obtain ⟨T165, X165, e165, st165⟩ := getF X163 hx hZ hown (host := "") (Or.inl (own_w hw 363 rfl)) Via.refl e163 Fc164 (g := (mkF m 113 #[oR r0, oR r1, oU, oU, oU, oU, oU, oU, oU, oU] [(.ref r0), (.long ((4 : Int32).toInt64)), (.ref r0)])) rfl rfl (hb hby d46_113)
  obtain ⟨_, T166, L166, X166, hQ166, st166⟩ := own_cS X165 hx hZ hw hown (W := 1) (rmm51 l Z a0 hw []  h160 n0 ZZ161 ) (by decide) (by decide) (by decide) 367 rfl 368 rfl 82 rfl 369 rfl e165 (g := (mkF m 118 #[oR r0, oR r1, oU, oU, oU, oU, oU, oU, oU, oU] [(.long (12 : Int64)), (.ref r0)])) rfl (by rw [hml]; rfl) (argsL := [(.long (12 : Int64))]) (rest := [(.ref r0)]) (lenOf pd28 rfl) rfl (Nat.le_of_eq rfl) (hb hby d46_118) rfl (cN := 0) rfl (by decide) (sN := 0) rfl (by decide)
  obtain ⟨rfl, Nq166, P166_0⟩ := hQ166
  have N166 := Fr.app N160 Nq166
  obtain ⟨T167, h167, k167, X167, e167, E167, A167, Ea167, st167⟩ := newPE X166 hx hZ (own_w hw 370 rfl) P166_0 (g := (mkF m 121 #[oR r0, oR r1, oU, oU, oU, oU, oU, oU, oU, oU] [(.int 12), (.ref r0)])) rfl (hb hby d46_121) rfl (by decide) (cap := 12) (by decide) (by decide) (by decide) (by decide) (ad := "[D") (by decide)
  obtain ⟨b167, g167⟩ : ∃ z, z = h160.size := ⟨_, rfl⟩
  rw [← g167] at A167 Ea167 st167
  have g_b167 : n0 ≤ b167 := Nat.le_trans ZZ161 (Nat.le_of_eq g167.symm)
  have sz_b167 : h0.size ≤ b167 := Nat.le_trans KK162.1 (Nat.le_of_eq g167.symm)
  have ZZ168 : n0 ≤ h167.size := Nat.le_trans ZZ161 E167.1
  have KK169 : Keep h0 h167 [r0] := KK162.ext E167
  have V_b167 : Arv Z h167 b167 k167 .double (12 : Int32) [(.double 0), (.double 0), (.double 0), (.double 0), (.double 0), (.double 0), (.double 0), (.double 0), (.double 0), (.double 0), (.double 0), (.double 0)] (.double 0) := (Arv.new A167 (by decide)).pad (pad_rep [] (.double 0) 12)
  have Fc170 := (((((F_values_r0.other W103 (Or.inr (sn24 hw))).other W122 (Or.inr (sn25 hw))).other W151 (Or.inr (sn26 hw))).other W160 (Or.inr (sn27 hw))).ext E167)
  have Fc171 := ((Fc159.wr W160).ext E167)
  obtain ⟨T172, h172, X172, e172, W172, st172⟩ := putF X167 hx hZ hown (host := "") (Or.inl (own_w hw 371 rfl)) Via.refl e167 Fc170 Fc171 (Or.inl (own_w hw 372 rfl)) (own_w hw 324 rfl) (ty := (.array .double)) (by decide) rfl rfl (g := (mkF m 123 #[oR r0, oR r1, oU, oU, oU, oU, oU, oU, oU, oU] [(.ref b167), (.ref r0)])) rfl rfl (hb hby d46_123)
  have Fw172 := Fc170.same W172
  have N172 := Fr.snoc X172 N166 g_r0
  have ZZ173 : n0 ≤ h172.size := Nat.le_trans ZZ168 (Nat.le_of_eq W172.size.symm)
  have KK174 : Keep h0 h172 [r0] := KK169.wr W172 (Or.inl (List.mem_of_getElem? (i := 0) rfl))
  have Fc175 := (E_r1.keep KK174)
  have Fc176 := (F_modCount_r1.keep KK174 (ninS nq106 nin0))
  obtain ⟨_, T177, L177, X177, hQ177, st177⟩ := own_cI X172 hx hZ hw hown (b := r1) (W := 0) (rmm25 l Z a0 hw [] r1 (2 : Int32) h172 n0 ZZ173 Fc175 Fc176) (by decide) (by decide) (by decide) 373 rfl 155 rfl 156 rfl 157 rfl 158 rfl 159 rfl 160 rfl 59 rfl 161 rfl 2 rfl e172 Fc175 (g := (mkF m 129 #[oR r0, oR r1, oI 0, oU, oU, oU, oU, oU, oU, oU] [(.ref r1)])) rfl (by rw [hml]; rfl) (argsL := []) (rest := []) (lenOf pd21 rfl) rfl (Nat.le_of_eq rfl) (hb hby d46_129) rfl (cN := 2) rfl (by decide) (sN := 16) rfl (by decide)
  obtain ⟨it_177, rfl, Nq177, P177_0, P177_1, P177_2, P177_3, P177_4, P177_5, P177_6⟩ := hQ177
  have N177 := Fr.app N172 Nq177
  have g_it_177 : n0 ≤ it_177 := Nat.le_trans ZZ173 P177_1
  have sz_it_177 : h0.size ≤ it_177 := Nat.le_trans KK174.1 P177_1
  have ZZ178 : n0 ≤ T177.heap.size := Nat.le_trans ZZ173 P177_0.1
  have KK179 : Keep h0 T177.heap [r0] := Keep.trans KK174 P177_0 all0
  have Fc180 := (((((Fc125.other W151 (Or.inl nq106)).other W160 (Or.inl nq106)).ext E167).other W172 (Or.inl nq106)).keep P177_0 nin0)
  obtain ⟨_, T181, L181, X181, hQ181, st181⟩ := own_cI X177 hx hZ hw hown (b := it_177) (W := 0) (rm_hn1 l Z a0 hw [] it_177 r1 (2 : Int32) (0 : Int32) (2 : Int32) (.int (-1)) T177.heap n0 ZZ178 P177_3 P177_4 P177_5 P177_6 Fc180 (by decide)) (by decide) (by decide) (by decide) 374 rfl 178 rfl 179 rfl 180 rfl 181 rfl 182 rfl 183 rfl 184 rfl 185 rfl 164 rfl rfl P177_2 (g := (mkF m 136 #[oR r0, oR r1, oI 0, oR it_177, oU, oU, oU, oU, oU, oU] [(.ref it_177)])) rfl (by rw [hml]; rfl) (argsL := []) (rest := []) (lenOf pd15 rfl) rfl (Nat.le_of_eq rfl) (hb hby d46_136) rfl (cN := 2) rfl (by decide) (sN := 16) rfl (by decide)
  obtain ⟨rfl, Nq181, P181_0⟩ := hQ181
  have N181 := Fr.app N177 Nq181
  have Fc182 := (E_r1.keep KK179)
  have Fc183 := (F_modCount_r1.keep KK179 (ninS nq106 nin0))
  have Fc184 := (((((Fc128.other W151 (Or.inl nq106)).other W160 (Or.inl nq106)).ext E167).other W172 (Or.inl nq106)).keep P177_0 nin0)
  have Fc185 := (V_el.keep KK179 (ninS nq110 nin0))
  have Fc186 := (E_el.keep KK179)
  obtain ⟨_, T187, L187, X187, hQ187, st187⟩ := own_cI X181 hx hZ hw hown (b := it_177) (W := 0) (rmm28 l Z a0 hw [] it_177 r1 (2 : Int32) (0 : Int32) (2 : Int32) (.int (-1)) el o0 kel (10 : Int32) [(.ref o0), (.ref o1), .null, .null] T177.heap n0 ZZ178 P177_2 Fc182 g_it_177 P177_3 P177_4 P177_5 P177_6 Fc180 Fc183 Fc184 Fc185 Fc186 (by decide) (by decide) (⟨by decide, by decide⟩) rfl) (by decide) (by decide) (by decide) 375 rfl 190 rfl 191 rfl 192 rfl 193 rfl 194 rfl 195 rfl 184 rfl 196 rfl 164 rfl P181_0 P177_2 (g := (mkF m 145 #[oR r0, oR r1, oI 0, oR it_177, oU, oU, oU, oU, oU, oU] [(.ref it_177)])) rfl (by rw [hml]; rfl) (argsL := []) (rest := []) (lenOf pd22 rfl) rfl (Nat.le_of_eq rfl) (hb hby d46_145) rfl (cN := 2) rfl (by decide) (sN := 16) rfl (by decide)
  obtain ⟨rfl, Nq187, P187_0, P187_1, P187_2, P187_3, P187_4⟩ := hQ187
  have N187 := Fr.app N181 Nq187
  have ZZ188 : n0 ≤ T187.heap.size := Nat.le_trans ZZ178 P187_0.1
  have KK189 : Keep h0 T187.heap [r0] := Keep.trans KK179 P187_0 (allS (Or.inr sz_it_177) all0)
  have Fr190 : Fld Z T187.heap it_177 kITR "cursor" "I" (.int 1) := (own_fi (by decide) P187_1)
  have Fc191 := (E_o0.keep KK189)
  obtain ⟨T192, X192, e192, st192⟩ := castY X187 hx hZ hown (own_w hw 335 rfl) rfl (Ins.self Fc191) (g := (mkF m 150 #[oR r0, oR r1, oI 0, oR it_177, oU, oU, oU, oU, oU, oU] [(.ref o0)])) rfl rfl (hb hby d46_150)
  have nq193 : o0 ≠ it_177 := (ne_exa Fc191 (P177_2.keep P187_0) (by decide))
  have Fc194 := ((((((Fc133.other W151 (Or.inl nq113)).other W160 (Or.inl nq113)).ext E167).other W172 (Or.inl nq113)).keep P177_0 nin0).keep P187_0 (ninS nq193 nin0))
  have Fc195 := ((((((Fc134.other W151 (Or.inl nq113)).other W160 (Or.inl nq113)).ext E167).other W172 (Or.inl nq113)).keep P177_0 nin0).keep P187_0 (ninS nq193 nin0))
  obtain ⟨_, T196, L196, X196, hQ196, st196⟩ := own_cV X192 hx hZ hw hown (b := o0) (W := 0) (rmm47 l Z a0 hw [] o0 L0 wn0 T187.heap n0 ZZ188 Fc194 Fc195) (by decide) (by decide) (by decide) 337 rfl 338 rfl 340 rfl 339 rfl 341 rfl 90 rfl e192 Fc191 (g := (mkF m 157 #[oR r0, oR r1, oI 0, oR it_177, oR o0, oU, oU, oU, oU, oU] [(.ref o0)])) rfl (by rw [hml]; rfl) (argsL := []) (rest := []) (lenOf pd27 rfl) rfl (Nat.le_of_eq rfl) (hb hby d46_157) rfl (cN := 2) rfl (by decide) (sN := 16) rfl (by decide)
  obtain ⟨rfl, Nq196, P196_0⟩ := hQ196
  have N196 := Fr.app N187 Nq196
  have Fc197 := (E_L0.keep KK189)
  have nq198 : L0 ≠ it_177 := (ne_exa Fc197 (P177_2.keep P187_0) (by decide))
  have Fc199 := ((((((Fc136.other W151 (Or.inl nq117)).other W160 (Or.inl nq117)).ext E167).other W172 (Or.inl nq117)).keep P177_0 nin0).keep P187_0 (ninS nq198 nin0))
  have Fc200 := ((((((Fc137.other W151 (Or.inl nq117)).other W160 (Or.inl nq117)).ext E167).other W172 (Or.inl nq117)).keep P177_0 nin0).keep P187_0 (ninS nq198 nin0))
  have Ol201 := ((((((Ol138.wr W151 g_r0).wr W160 g_r0).ext E167).wr W172 g_r0).keep P177_0 all0).keep P187_0 (allS g_it_177 all0))
  obtain ⟨_, T202, L202, X202, hQ202, st202⟩ := own_cI X196 hx hZ hw hown (b := L0) (W := 0) (rm_it2 l Z a0 hw [] L0 N00 N01 em T187.heap n0 ZZ188 Fc197 Fc199 Fc200 Ol201 S_EMPTY E_em ne_N01_em) (by decide) (by decide) (by decide) 373 rfl 155 rfl 156 rfl 376 rfl 377 rfl 378 rfl 379 rfl 346 rfl 380 rfl 285 rfl P196_0 Fc197 (g := (mkF m 160 #[oR r0, oR r1, oI 0, oR it_177, oR o0, oU, oU, oU, oU, oU] [(.ref L0)])) rfl (by rw [hml]; rfl) (argsL := []) (rest := []) (lenOf pd21 rfl) rfl (Nat.le_of_eq rfl) (hb hby d46_160) rfl (cN := 3) rfl (by decide) (sN := 20) rfl (by decide)
  obtain ⟨it_202, rfl, Nq202, P202_0, P202_1, P202_2, P202_3, P202_4, P202_5, P202_6⟩ := hQ202
  have N202 := Fr.app N196 Nq202
  have g_it_202 : n0 ≤ it_202 := Nat.le_trans ZZ188 P202_1
  have sz_it_202 : h0.size ≤ it_202 := Nat.le_trans KK189.1 P202_1
  have ZZ203 : n0 ≤ T202.heap.size := Nat.le_trans ZZ188 P202_0.1
  have KK204 : Keep h0 T202.heap [r0] := Keep.trans KK189 P202_0 all0
  obtain ⟨_, T205, L205, X205, hQ205, st205⟩ := own_cI X202 hx hZ hw hown (b := it_202) (W := 0) (rm_lh1 l Z a0 hw [] it_202 (0 : Int32) (2 : Int32) (.ref L0) (.int 0) T202.heap n0 ZZ203 P202_3 P202_4 P202_5 P202_6 (by decide)) (by decide) (by decide) (by decide) 374 rfl 178 rfl 179 rfl 401 rfl 402 rfl 403 rfl 404 rfl 405 rfl 406 rfl 383 rfl rfl P202_2 (g := (mkF m 169 #[oR r0, oR r1, oI 0, oR it_177, oR o0, oR it_202, oU, oU, oU, oU] [(.ref it_202)])) rfl (by rw [hml]; rfl) (argsL := []) (rest := []) (lenOf pd15 rfl) rfl (Nat.le_of_eq rfl) (hb hby d46_169) rfl (cN := 3) rfl (by decide) (sN := 20) rfl (by decide)
  obtain ⟨rfl, Nq205, P205_0⟩ := hQ205
  have N205 := Fr.app N202 Nq205
  have Fc206 := (E_L0.keep KK204)
  obtain ⟨_, T207, L207, X207, hQ207, st207⟩ := own_cIW X205 hx hZ hw hown (b := it_202) (W := 0) (rm_ln2_0 l Z a0 hw [] it_202 L0 N00 N01 em (.int 0) T202.heap n0 ZZ203 P202_2 g_it_202 P202_3 P202_4 P202_5 P202_6 Fc206 (Fc199.keep P202_0 nin0) (Fc200.keep P202_0 nin0) (Ol201.keep P202_0 all0) S_EMPTY E_em ne_N01_em) (by decide) (by decide) (by decide) 375 rfl 190 rfl 191 rfl 407 rfl 408 rfl 409 rfl 410 rfl 405 rfl 411 rfl 383 rfl P205_0 P202_2 (g := (mkF m 179 #[oR r0, oR r1, oI 0, oR it_177, oR o0, oR it_202, oU, oU, oU, oU] [(.ref it_202)])) rfl (by rw [hml]; rfl) (argsL := []) (rest := []) (lenOf pd22 rfl) rfl (Nat.le_of_eq rfl) (hb hby d46_179) rfl (cN := 3) rfl (by decide) (sN := 20) rfl (by decide)
  obtain ⟨rfl, Nq207, P207_0, P207_1, P207_2, P207_3, P207_4⟩ := hQ207
  have N207 := Fr.app N205 Nq207
  have ZZ208 : n0 ≤ T207.heap.size := Nat.le_trans ZZ203 P207_0.1
  have KK209 : Keep h0 T207.heap [r0] := Keep.trans KK204 P207_0 (allS (Or.inr sz_it_202) all0)
  have Fc210 := (E_N00.keep KK209)
  obtain ⟨T211, X211, e211, st211⟩ := castY X207 hx hZ hown (own_w hw 356 rfl) rfl (Ins.of_exa Fc210 (own_w hw 357 rfl)) (g := (mkF m 184 #[oR r0, oR r1, oI 0, oR it_177, oR o0, oR it_202, oU, oU, oU, oU] [(.ref N00)])) rfl rfl (hb hby d46_184)
  have Fc212 := (((((Fc171.wr W172).keep P177_0).keep P187_0).keep P202_0).keep P207_0)
  have Fc213 := (((P177_2.keep P187_0).keep P202_0).keep P207_0)
  have nq214 : r0 ≠ it_177 := (ne_exa Fc212 Fc213 (by decide))
  have nq215 : r0 ≠ it_202 := (ne_exa Fc212 (P202_2.keep P207_0) (by decide))
  have Fc216 := ((((Fw172.keep P177_0 nin0).keep P187_0 (ninS nq214 nin0)).keep P202_0 nin0).keep P207_0 (ninS nq215 nin0))
  have Fc217 := (((((Ea167.wr W172).keep P177_0).keep P187_0).keep P202_0).keep P207_0)
  have nq218 : b167 ≠ r0 := (ne_exa Fc217 Fc212 (by decide))
  have nq219 : b167 ≠ it_177 := (Nat.ne_of_lt (Nat.lt_of_lt_of_le (Ea167.wr W172).lt P177_1))
  have nq220 : b167 ≠ it_202 := (Nat.ne_of_lt (Nat.lt_of_lt_of_le (((Ea167.wr W172).keep P177_0).keep P187_0).lt P202_1))
  have Fc221 := (((((V_b167.other W172 nq218).keep P177_0 nin0).keep P187_0 (ninS nq219 nin0)).keep P202_0 nin0).keep P207_0 (ninS nq220 nin0))
  have Fc222 := (F_elements_N00.keep KK209 (ninS nq143 nin0))
  have Fc223 := (F_allowNulls_N00.keep KK209 (ninS nq143 nin0))
  have Fc224 := (V_A00.keep KK209 (ninS nq147 nin0))
  have Fc225 := (E_A00.keep KK209)
  have Fc226 := (E_x000.keep KK209)
  have nq227 : x000 ≠ r0 := (ne_exa Fc226 Fc212 (by decide))
  have Fc228 := (F_value_x000.keep KK209 (ninS nq227 nin0))
  have Fc229 := (E_x001.keep KK209)
  have nq230 : x001 ≠ r0 := (ne_exa Fc229 Fc212 (by decide))
  have Fc231 := (F_value_x001.keep KK209 (ninS nq230 nin0))
  have Fc232 := (E_x002.keep KK209)
  have nq233 : x002 ≠ r0 := (ne_exa Fc232 Fc212 (by decide))
  have Fc234 := (F_value_x002.keep KK209 (ninS nq233 nin0))
  obtain ⟨it_235, T235, L235, X235, N235, P235_0, P235_1, st235⟩ := own_VS l Z a0 hw r0 r1 it_177 o0 it_202 N00 b167 A00 x000 x001 x002 k167 kA00 (0 : Int32) (3 : Int32) 0 [(.double 0), (.double 0), (.double 0), (.double 0), (.double 0), (.double 0), (.double 0), (.double 0), (.double 0), (.double 0), (.double 0), (.double 0)] (.int 0) d000 d001 d002 (oU) (oU) (oU) 3 20 T207.heap n0 ZZ208 Fc212 Fc216 Fc221 Fc217 g_b167 Fc210 Fc222 Fc223 Fc224 Fc225 Fc226 Fc228 Fc229 Fc231 Fc232 Fc234 (⟨by decide, by decide⟩) (by decide) (Nat.le_of_ble_eq_true rfl) (⟨by decide, by decide⟩) (by decide) (Nat.le_of_ble_eq_true rfl) (⟨by decide, by decide⟩) (by decide) (Nat.le_of_ble_eq_true rfl) (by decide) One.u (Or.inl ⟨rfl, rfl⟩) (by decide) (by decide) hx hby hml hZ hown hnm X211 e211 N207
  have ZZ236 : n0 ≤ T235.heap.size := Nat.le_trans ZZ208 P235_0.1
  have KK237 : Keep h0 T235.heap [r0] := Keep.trans KK209 P235_0 (allS (Or.inr sz_b167) all0)
  have Vr238 : Arv Z T235.heap b167 k167 .double (12 : Int32) [(.double d000), (.double d001), (.double d002), (.double 0), (.double 0), (.double 0), (.double 0), (.double 0), (.double 0), (.double 0), (.double 0), (.double 0)] (.double 0) := P235_1
  have Fc239 := (P207_1.keep P235_0 (ninS (Ne.symm nq220) nin0))
  have Fc240 := (P207_2.keep P235_0 (ninS (Ne.symm nq220) nin0))
  have Fc241 := (P207_3.keep P235_0 (ninS (Ne.symm nq220) nin0))
  have Fc242 := (P207_4.keep P235_0 (ninS (Ne.symm nq220) nin0))
  have Fc244 := ((P202_2.keep P207_0).keep P235_0)
  obtain ⟨_, T243, L243, X243, hQ243, st243⟩ := own_cI X235 hx hZ hw hown (b := it_202) (W := 0) (rm_lh1 l Z a0 hw [] it_202 (1 : Int32) (2 : Int32) (.ref L0) (.int 0) T235.heap n0 ZZ236 Fc239 Fc240 Fc241 Fc242 (by decide)) (by decide) (by decide) (by decide) 374 rfl 178 rfl 179 rfl 401 rfl 402 rfl 403 rfl 404 rfl 405 rfl 406 rfl 383 rfl rfl Fc244 (g := (mkF m 169 #[oR r0, oR r1, oI 3, oR it_177, oR o0, oR it_202, oR N00, oR it_235, oD d002, oV] [(.ref it_202)])) rfl (by rw [hml]; rfl) (argsL := []) (rest := []) (lenOf pd15 rfl) rfl (Nat.le_of_eq rfl) (hb hby d46_169) rfl (cN := 4) rfl (by decide) (sN := 24) rfl (by decide)
  obtain ⟨rfl, Nq243, P243_0⟩ := hQ243
  have N243 := Fr.app N235 Nq243
  have Fc245 := (E_L0.keep KK237)
  have nq246 : L0 ≠ it_202 := (ne_exa Fc245 Fc244 (by decide))
  have nq247 : L0 ≠ b167 := (ne_exa Fc245 (Fc217.keep P235_0) (by decide))
  have Fc248 := (((Fc199.keep P202_0 nin0).keep P207_0 (ninS nq246 nin0)).keep P235_0 (ninS nq247 nin0))
  have Fc249 := (((Fc200.keep P202_0 nin0).keep P207_0 (ninS nq246 nin0)).keep P235_0 (ninS nq247 nin0))
  have Ol250 := (((Ol201.keep P202_0 all0).keep P207_0 (allS g_it_202 all0)).keep P235_0 (allS g_b167 all0))
  obtain ⟨_, T251, L251, X251, hQ251, st251⟩ := own_cIW X243 hx hZ hw hown (b := it_202) (W := 0) (rm_ln2_1 l Z a0 hw [] it_202 L0 N00 N01 em (.int 0) T235.heap n0 ZZ236 Fc244 g_it_202 Fc239 Fc240 Fc241 Fc242 Fc245 Fc248 Fc249 Ol250 S_EMPTY E_em ne_N01_em) (by decide) (by decide) (by decide) 375 rfl 190 rfl 191 rfl 407 rfl 408 rfl 409 rfl 410 rfl 405 rfl 411 rfl 383 rfl P243_0 Fc244 (g := (mkF m 179 #[oR r0, oR r1, oI 3, oR it_177, oR o0, oR it_202, oR N00, oR it_235, oD d002, oV] [(.ref it_202)])) rfl (by rw [hml]; rfl) (argsL := []) (rest := []) (lenOf pd22 rfl) rfl (Nat.le_of_eq rfl) (hb hby d46_179) rfl (cN := 4) rfl (by decide) (sN := 24) rfl (by decide)
  obtain ⟨rfl, Nq251, P251_0, P251_1, P251_2, P251_3, P251_4⟩ := hQ251
  have N251 := Fr.app N243 Nq251
  have ZZ252 : n0 ≤ T251.heap.size := Nat.le_trans ZZ236 P251_0.1
  have KK253 : Keep h0 T251.heap [r0] := Keep.trans KK237 P251_0 (allS (Or.inr sz_it_202) all0)
  have Fc254 := (E_N01.keep KK253)
  obtain ⟨T255, X255, e255, st255⟩ := castY X251 hx hZ hown (own_w hw 356 rfl) rfl (Ins.of_exa Fc254 (own_w hw 357 rfl)) (g := (mkF m 184 #[oR r0, oR r1, oI 3, oR it_177, oR o0, oR it_202, oR N00, oR it_235, oD d002, oV] [(.ref N01)])) rfl rfl (hb hby d46_184)
  have Fc256 := ((Fc212.keep P235_0).keep P251_0)
  have Fc257 := ((Fc216.keep P235_0 (ninS (Ne.symm nq218) nin0)).keep P251_0 (ninS nq215 nin0))
  have Fc258 := (Vr238.keep P251_0 (ninS nq220 nin0))
  have Fc259 := ((Fc217.keep P235_0).keep P251_0)
  have nq260 : N01 ≠ r0 := (ne_exa Fc254 Fc256 (by decide))
  have Fc261 := (F_elements_N01.keep KK253 (ninS nq260 nin0))
  have Fc262 := (F_allowNulls_N01.keep KK253 (ninS nq260 nin0))
  have Fc263 := (E_A01.keep KK253)
  have nq264 : A01 ≠ r0 := (ne_exa Fc263 Fc256 (by decide))
  have Fc265 := (V_A01.keep KK253 (ninS nq264 nin0))
  have Fc266 := (E_x010.keep KK253)
  have nq267 : x010 ≠ r0 := (ne_exa Fc266 Fc256 (by decide))
  have Fc268 := (F_value_x010.keep KK253 (ninS nq267 nin0))
  have Fc269 := (E_x011.keep KK253)
  have nq270 : x011 ≠ r0 := (ne_exa Fc269 Fc256 (by decide))
  have Fc271 := (F_value_x011.keep KK253 (ninS nq270 nin0))
  have Fc272 := (E_x012.keep KK253)
  have nq273 : x012 ≠ r0 := (ne_exa Fc272 Fc256 (by decide))
  have Fc274 := (F_value_x012.keep KK253 (ninS nq273 nin0))
  obtain ⟨it_275, T275, L275, X275, N275, P275_0, P275_1, st275⟩ := own_VS l Z a0 hw r0 r1 it_177 o0 it_202 N01 b167 A01 x010 x011 x012 k167 kA01 (3 : Int32) (6 : Int32) 3 [(.double d000), (.double d001), (.double d002), (.double 0), (.double 0), (.double 0), (.double 0), (.double 0), (.double 0), (.double 0), (.double 0), (.double 0)] (.int 0) d010 d011 d012 (.val (.ref it_235)) (.val (.double d002)) (oV) 4 24 T251.heap n0 ZZ252 Fc256 Fc257 Fc258 Fc259 g_b167 Fc254 Fc261 Fc262 Fc265 Fc263 Fc266 Fc268 Fc269 Fc271 Fc272 Fc274 (⟨by decide, by decide⟩) (by decide) (Nat.le_of_ble_eq_true rfl) (⟨by decide, by decide⟩) (by decide) (Nat.le_of_ble_eq_true rfl) (⟨by decide, by decide⟩) (by decide) (Nat.le_of_ble_eq_true rfl) (by decide) (One.val rfl) (Or.inr ⟨_, rfl, rfl⟩) (by decide) (by decide) hx hby hml hZ hown hnm X255 e255 N251
  have ZZ276 : n0 ≤ T275.heap.size := Nat.le_trans ZZ252 P275_0.1
  have KK277 : Keep h0 T275.heap [r0] := Keep.trans KK253 P275_0 (allS (Or.inr sz_b167) all0)
  have Vr278 : Arv Z T275.heap b167 k167 .double (12 : Int32) [(.double d000), (.double d001), (.double d002), (.double d010), (.double d011), (.double d012), (.double 0), (.double 0), (.double 0), (.double 0), (.double 0), (.double 0)] (.double 0) := P275_1
  have Fc279 := (P251_1.keep P275_0 (ninS (Ne.symm nq220) nin0))
  have Fc280 := (P251_2.keep P275_0 (ninS (Ne.symm nq220) nin0))
  have Fc281 := (P251_3.keep P275_0 (ninS (Ne.symm nq220) nin0))
  have Fc282 := (P251_4.keep P275_0 (ninS (Ne.symm nq220) nin0))
  have Fc284 := ((Fc244.keep P251_0).keep P275_0)
  obtain ⟨_, T283, L283, X283, hQ283, st283⟩ := own_cI X275 hx hZ hw hown (b := it_202) (W := 0) (rm_lh0 l Z a0 hw [] it_202 (2 : Int32) (2 : Int32) (.ref L0) (.int 0) T275.heap n0 ZZ276 Fc279 Fc280 Fc281 Fc282 rfl) (by decide) (by decide) (by decide) 374 rfl 178 rfl 179 rfl 401 rfl 402 rfl 403 rfl 404 rfl 405 rfl 406 rfl 383 rfl rfl Fc284 (g := (mkF m 169 #[oR r0, oR r1, oI 6, oR it_177, oR o0, oR it_202, oR N01, oR it_275, oD d012, oV] [(.ref it_202)])) rfl (by rw [hml]; rfl) (argsL := []) (rest := []) (lenOf pd15 rfl) rfl (Nat.le_of_eq rfl) (hb hby d46_169) rfl (cN := 5) rfl (by decide) (sN := 28) rfl (by decide)
  obtain ⟨rfl, Nq283, P283_0⟩ := hQ283
  have N283 := Fr.app N275 Nq283
  have nq285 : it_177 ≠ it_202 := (Nat.ne_of_lt (Nat.lt_of_lt_of_le Fr190.lt P202_1))
  have Fc286 := (((((Fr190.keep P202_0 nin0).keep P207_0 (ninS nq285 nin0)).keep P235_0 (ninS (Ne.symm nq219) nin0)).keep P251_0 (ninS nq285 nin0)).keep P275_0 (ninS (Ne.symm nq219) nin0))
  have Fc287 := (((((P187_2.keep P202_0 nin0).keep P207_0 (ninS nq285 nin0)).keep P235_0 (ninS (Ne.symm nq219) nin0)).keep P251_0 (ninS nq285 nin0)).keep P275_0 (ninS (Ne.symm nq219) nin0))
  have Fc288 := (((((P187_3.keep P202_0 nin0).keep P207_0 (ninS nq285 nin0)).keep P235_0 (ninS (Ne.symm nq219) nin0)).keep P251_0 (ninS nq285 nin0)).keep P275_0 (ninS (Ne.symm nq219) nin0))
  have Fc289 := (((((P187_4.keep P202_0 nin0).keep P207_0 (ninS nq285 nin0)).keep P235_0 (ninS (Ne.symm nq219) nin0)).keep P251_0 (ninS nq285 nin0)).keep P275_0 (ninS (Ne.symm nq219) nin0))
  have Fc290 := (E_r1.keep KK277)
  have Fc291 := (((Fc213.keep P235_0).keep P251_0).keep P275_0)
  have nq292 : r1 ≠ it_177 := (ne_exa Fc290 Fc291 (by decide))
  have nq293 : r1 ≠ it_202 := (ne_exa Fc290 Fc284 (by decide))
  have nq294 : r1 ≠ b167 := (ne_exa Fc290 (Fc259.keep P275_0) (by decide))
  have Fc295 := ((((((Fc180.keep P187_0 (ninS nq292 nin0)).keep P202_0 nin0).keep P207_0 (ninS nq293 nin0)).keep P235_0 (ninS nq294 nin0)).keep P251_0 (ninS nq293 nin0)).keep P275_0 (ninS nq294 nin0))
  obtain ⟨_, T296, L296, X296, hQ296, st296⟩ := own_cI X283 hx hZ hw hown (b := it_177) (W := 0) (rm_hn1 l Z a0 hw [] it_177 r1 (2 : Int32) (1 : Int32) (2 : Int32) (.int 0) T275.heap n0 ZZ276 Fc286 Fc287 Fc288 Fc289 Fc295 (by decide)) (by decide) (by decide) (by decide) 374 rfl 178 rfl 179 rfl 180 rfl 181 rfl 182 rfl 183 rfl 184 rfl 185 rfl 164 rfl P283_0 Fc291 (g := (mkF m 136 #[oR r0, oR r1, oI 6, oR it_177, oR o0, oR it_202, oR N01, oR it_275, oD d012, oV] [(.ref it_177)])) rfl (by rw [hml]; rfl) (argsL := []) (rest := []) (lenOf pd15 rfl) rfl (Nat.le_of_eq rfl) (hb hby d46_136) rfl (cN := 5) rfl (by decide) (sN := 28) rfl (by decide)
  obtain ⟨rfl, Nq296, P296_0⟩ := hQ296
  have N296 := Fr.app N283 Nq296
  have Fc297 := (F_modCount_r1.keep KK277 (ninS nq106 nin0))
  have Fc298 := ((((((Fc184.keep P187_0 (ninS nq292 nin0)).keep P202_0 nin0).keep P207_0 (ninS nq293 nin0)).keep P235_0 (ninS nq294 nin0)).keep P251_0 (ninS nq293 nin0)).keep P275_0 (ninS nq294 nin0))
  have Fc299 := (V_el.keep KK277 (ninS nq110 nin0))
  have Fc300 := (E_el.keep KK277)
  obtain ⟨_, T301, L301, X301, hQ301, st301⟩ := own_cI X296 hx hZ hw hown (b := it_177) (W := 0) (rmm28 l Z a0 hw [] it_177 r1 (2 : Int32) (1 : Int32) (2 : Int32) (.int 0) el o1 kel (10 : Int32) [(.ref o0), (.ref o1), .null, .null] T275.heap n0 ZZ276 Fc291 Fc290 g_it_177 Fc286 Fc287 Fc288 Fc289 Fc295 Fc297 Fc298 Fc299 Fc300 (by decide) (by decide) (⟨by decide, by decide⟩) rfl) (by decide) (by decide) (by decide) 375 rfl 190 rfl 191 rfl 192 rfl 193 rfl 194 rfl 195 rfl 184 rfl 196 rfl 164 rfl P296_0 Fc291 (g := (mkF m 145 #[oR r0, oR r1, oI 6, oR it_177, oR o0, oR it_202, oR N01, oR it_275, oD d012, oV] [(.ref it_177)])) rfl (by rw [hml]; rfl) (argsL := []) (rest := []) (lenOf pd22 rfl) rfl (Nat.le_of_eq rfl) (hb hby d46_145) rfl (cN := 5) rfl (by decide) (sN := 28) rfl (by decide)
  obtain ⟨rfl, Nq301, P301_0, P301_1, P301_2, P301_3, P301_4⟩ := hQ301
  have N301 := Fr.app N296 Nq301
  have ZZ302 : n0 ≤ T301.heap.size := Nat.le_trans ZZ276 P301_0.1
  have KK303 : Keep h0 T301.heap [r0] := Keep.trans KK277 P301_0 (allS (Or.inr sz_it_177) all0)
  have Fr304 : Fld Z T301.heap it_177 kITR "cursor" "I" (.int 2) := (own_fi (by decide) P301_1)
  have Fc305 := (E_o1.keep KK303)
  obtain ⟨T306, X306, e306, st306⟩ := castY X301 hx hZ hown (own_w hw 335 rfl) rfl (Ins.self Fc305) (g := (mkF m 150 #[oR r0, oR r1, oI 6, oR it_177, oR o0, oR it_202, oR N01, oR it_275, oD d012, oV] [(.ref o1)])) rfl rfl (hb hby d46_150)
  have Fc307 := ((Fc256.keep P275_0).keep P301_0)
  have nq308 : o1 ≠ r0 := (ne_exa Fc305 Fc307 (by decide))
  have Fc309 := (F_name_o1.keep KK303 (ninS nq308 nin0))
  have Fc310 := (F_vectors_o1.keep KK303 (ninS nq308 nin0))
  obtain ⟨_, T311, L311, X311, hQ311, st311⟩ := own_cV X306 hx hZ hw hown (b := o1) (W := 0) (rmm47 l Z a0 hw [] o1 L1 wn1 T301.heap n0 ZZ302 Fc309 Fc310) (by decide) (by decide) (by decide) 337 rfl 338 rfl 340 rfl 339 rfl 341 rfl 90 rfl e306 Fc305 (g := (mkF m 157 #[oR r0, oR r1, oI 6, oR it_177, oR o1, oR it_202, oR N01, oR it_275, oD d012, oV] [(.ref o1)])) rfl (by rw [hml]; rfl) (argsL := []) (rest := []) (lenOf pd27 rfl) rfl (Nat.le_of_eq rfl) (hb hby d46_157) rfl (cN := 5) rfl (by decide) (sN := 28) rfl (by decide)
  obtain ⟨rfl, Nq311, P311_0⟩ := hQ311
  have N311 := Fr.app N301 Nq311
  have Fc312 := (E_L1.keep KK303)
  have nq313 : L1 ≠ r0 := (ne_exa Fc312 Fc307 (by decide))
  have Fc314 := (F_e0_L1.keep KK303 (ninS nq313 nin0))
  have Fc315 := (F_e1_L1.keep KK303 (ninS nq313 nin0))
  have Ol316 := (((Ol250.keep P251_0 (allS g_it_202 all0)).keep P275_0 (allS g_b167 all0)).keep P301_0 (allS g_it_177 all0))
  obtain ⟨_, T317, L317, X317, hQ317, st317⟩ := own_cI X311 hx hZ hw hown (b := L1) (W := 0) (rm_it2 l Z a0 hw [] L1 N10 N11 em T301.heap n0 ZZ302 Fc312 Fc314 Fc315 Ol316 S_EMPTY E_em ne_N11_em) (by decide) (by decide) (by decide) 373 rfl 155 rfl 156 rfl 376 rfl 377 rfl 378 rfl 379 rfl 346 rfl 380 rfl 285 rfl P311_0 Fc312 (g := (mkF m 160 #[oR r0, oR r1, oI 6, oR it_177, oR o1, oR it_202, oR N01, oR it_275, oD d012, oV] [(.ref L1)])) rfl (by rw [hml]; rfl) (argsL := []) (rest := []) (lenOf pd21 rfl) rfl (Nat.le_of_eq rfl) (hb hby d46_160) rfl (cN := 6) rfl (by decide) (sN := 32) rfl (by decide)
  obtain ⟨it_317, rfl, Nq317, P317_0, P317_1, P317_2, P317_3, P317_4, P317_5, P317_6⟩ := hQ317
  have N317 := Fr.app N311 Nq317
  have g_it_317 : n0 ≤ it_317 := Nat.le_trans ZZ302 P317_1
  have sz_it_317 : h0.size ≤ it_317 := Nat.le_trans KK303.1 P317_1
  have ZZ318 : n0 ≤ T317.heap.size := Nat.le_trans ZZ302 P317_0.1
  have KK319 : Keep h0 T317.heap [r0] := Keep.trans KK303 P317_0 all0
  obtain ⟨_, T320, L320, X320, hQ320, st320⟩ := own_cI X317 hx hZ hw hown (b := it_317) (W := 0) (rm_lh1 l Z a0 hw [] it_317 (0 : Int32) (2 : Int32) (.ref L1) (.int 0) T317.heap n0 ZZ318 P317_3 P317_4 P317_5 P317_6 (by decide)) (by decide) (by decide) (by decide) 374 rfl 178 rfl 179 rfl 401 rfl 402 rfl 403 rfl 404 rfl 405 rfl 406 rfl 383 rfl rfl P317_2 (g := (mkF m 169 #[oR r0, oR r1, oI 6, oR it_177, oR o1, oR it_317, oR N01, oR it_275, oD d012, oV] [(.ref it_317)])) rfl (by rw [hml]; rfl) (argsL := []) (rest := []) (lenOf pd15 rfl) rfl (Nat.le_of_eq rfl) (hb hby d46_169) rfl (cN := 6) rfl (by decide) (sN := 32) rfl (by decide)
  obtain ⟨rfl, Nq320, P320_0⟩ := hQ320
  have N320 := Fr.app N317 Nq320
  have Fc321 := (E_L1.keep KK319)
  have Fc322 := (F_e0_L1.keep KK319 (ninS nq313 nin0))
  have Fc323 := (F_e1_L1.keep KK319 (ninS nq313 nin0))
  obtain ⟨_, T324, L324, X324, hQ324, st324⟩ := own_cIW X320 hx hZ hw hown (b := it_317) (W := 0) (rm_ln2_0 l Z a0 hw [] it_317 L1 N10 N11 em (.int 0) T317.heap n0 ZZ318 P317_2 g_it_317 P317_3 P317_4 P317_5 P317_6 Fc321 Fc322 Fc323 (Ol316.keep P317_0 all0) S_EMPTY E_em ne_N11_em) (by decide) (by decide) (by decide) 375 rfl 190 rfl 191 rfl 407 rfl 408 rfl 409 rfl 410 rfl 405 rfl 411 rfl 383 rfl P320_0 P317_2 (g := (mkF m 179 #[oR r0, oR r1, oI 6, oR it_177, oR o1, oR it_317, oR N01, oR it_275, oD d012, oV] [(.ref it_317)])) rfl (by rw [hml]; rfl) (argsL := []) (rest := []) (lenOf pd22 rfl) rfl (Nat.le_of_eq rfl) (hb hby d46_179) rfl (cN := 6) rfl (by decide) (sN := 32) rfl (by decide)
  obtain ⟨rfl, Nq324, P324_0, P324_1, P324_2, P324_3, P324_4⟩ := hQ324
  have N324 := Fr.app N320 Nq324
  have ZZ325 : n0 ≤ T324.heap.size := Nat.le_trans ZZ318 P324_0.1
  have KK326 : Keep h0 T324.heap [r0] := Keep.trans KK319 P324_0 (allS (Or.inr sz_it_317) all0)
  have Fc327 := (E_N10.keep KK326)
  obtain ⟨T328, X328, e328, st328⟩ := castY X324 hx hZ hown (own_w hw 356 rfl) rfl (Ins.of_exa Fc327 (own_w hw 357 rfl)) (g := (mkF m 184 #[oR r0, oR r1, oI 6, oR it_177, oR o1, oR it_317, oR N01, oR it_275, oD d012, oV] [(.ref N10)])) rfl rfl (hb hby d46_184)
  have Fc329 := ((Fc307.keep P317_0).keep P324_0)
  have nq330 : r0 ≠ it_317 := (ne_exa Fc329 (P317_2.keep P324_0) (by decide))
  have Fc331 := ((((Fc257.keep P275_0 (ninS (Ne.symm nq218) nin0)).keep P301_0 (ninS nq214 nin0)).keep P317_0 nin0).keep P324_0 (ninS nq330 nin0))
  have nq332 : b167 ≠ it_317 := (Nat.ne_of_lt (Nat.lt_of_lt_of_le (Vr278.keep P301_0 (ninS nq219 nin0)).lt P317_1))
  have Fc333 := (((Vr278.keep P301_0 (ninS nq219 nin0)).keep P317_0 nin0).keep P324_0 (ninS nq332 nin0))
  have Fc334 := ((((Fc259.keep P275_0).keep P301_0).keep P317_0).keep P324_0)
  have nq335 : N10 ≠ r0 := (ne_exa Fc327 Fc329 (by decide))
  have Fc336 := (F_elements_N10.keep KK326 (ninS nq335 nin0))
  have Fc337 := (F_allowNulls_N10.keep KK326 (ninS nq335 nin0))
  have Fc338 := (E_A10.keep KK326)
  have nq339 : A10 ≠ r0 := (ne_exa Fc338 Fc329 (by decide))
  have Fc340 := (V_A10.keep KK326 (ninS nq339 nin0))
  have Fc341 := (E_x100.keep KK326)
  have nq342 : x100 ≠ r0 := (ne_exa Fc341 Fc329 (by decide))
  have Fc343 := (F_value_x100.keep KK326 (ninS nq342 nin0))
  have Fc344 := (E_x101.keep KK326)
  have nq345 : x101 ≠ r0 := (ne_exa Fc344 Fc329 (by decide))
  have Fc346 := (F_value_x101.keep KK326 (ninS nq345 nin0))
  have Fc347 := (E_x102.keep KK326)
  have nq348 : x102 ≠ r0 := (ne_exa Fc347 Fc329 (by decide))
  have Fc349 := (F_value_x102.keep KK326 (ninS nq348 nin0))
  obtain ⟨it_350, T350, L350, X350, N350, P350_0, P350_1, st350⟩ := own_VS l Z a0 hw r0 r1 it_177 o1 it_317 N10 b167 A10 x100 x101 x102 k167 kA10 (6 : Int32) (9 : Int32) 6 [(.double d000), (.double d001), (.double d002), (.double d010), (.double d011), (.double d012), (.double 0), (.double 0), (.double 0), (.double 0), (.double 0), (.double 0)] (.int 0) d100 d101 d102 (.val (.ref it_275)) (.val (.double d012)) (oV) 6 32 T324.heap n0 ZZ325 Fc329 Fc331 Fc333 Fc334 g_b167 Fc327 Fc336 Fc337 Fc340 Fc338 Fc341 Fc343 Fc344 Fc346 Fc347 Fc349 (⟨by decide, by decide⟩) (by decide) (Nat.le_of_ble_eq_true rfl) (⟨by decide, by decide⟩) (by decide) (Nat.le_of_ble_eq_true rfl) (⟨by decide, by decide⟩) (by decide) (Nat.le_of_ble_eq_true rfl) (by decide) (One.val rfl) (Or.inr ⟨_, rfl, rfl⟩) (by decide) (by decide) hx hby hml hZ hown hnm X328 e328 N324
  have ZZ351 : n0 ≤ T350.heap.size := Nat.le_trans ZZ325 P350_0.1
  have KK352 : Keep h0 T350.heap [r0] := Keep.trans KK326 P350_0 (allS (Or.inr sz_b167) all0)
  have Vr353 : Arv Z T350.heap b167 k167 .double (12 : Int32) [(.double d000), (.double d001), (.double d002), (.double d010), (.double d011), (.double d012), (.double d100), (.double d101), (.double d102), (.double 0), (.double 0), (.double 0)] (.double 0) := P350_1
  have Fc354 := (P324_1.keep P350_0 (ninS (Ne.symm nq332) nin0))
  have Fc355 := (P324_2.keep P350_0 (ninS (Ne.symm nq332) nin0))
  have Fc356 := (P324_3.keep P350_0 (ninS (Ne.symm nq332) nin0))
  have Fc357 := (P324_4.keep P350_0 (ninS (Ne.symm nq332) nin0))
  have Fc359 := ((P317_2.keep P324_0).keep P350_0)
  obtain ⟨_, T358, L358, X358, hQ358, st358⟩ := own_cI X350 hx hZ hw hown (b := it_317) (W := 0) (rm_lh1 l Z a0 hw [] it_317 (1 : Int32) (2 : Int32) (.ref L1) (.int 0) T350.heap n0 ZZ351 Fc354 Fc355 Fc356 Fc357 (by decide)) (by decide) (by decide) (by decide) 374 rfl 178 rfl 179 rfl 401 rfl 402 rfl 403 rfl 404 rfl 405 rfl 406 rfl 383 rfl rfl Fc359 (g := (mkF m 169 #[oR r0, oR r1, oI 9, oR it_177, oR o1, oR it_317, oR N10, oR it_350, oD d102, oV] [(.ref it_317)])) rfl (by rw [hml]; rfl) (argsL := []) (rest := []) (lenOf pd15 rfl) rfl (Nat.le_of_eq rfl) (hb hby d46_169) rfl (cN := 7) rfl (by decide) (sN := 36) rfl (by decide)
  obtain ⟨rfl, Nq358, P358_0⟩ := hQ358
  have N358 := Fr.app N350 Nq358
  have Fc360 := (E_L1.keep KK352)
  have Fc361 := (F_e0_L1.keep KK352 (ninS nq313 nin0))
  have Fc362 := (F_e1_L1.keep KK352 (ninS nq313 nin0))
  have Ol363 := (((Ol316.keep P317_0 all0).keep P324_0 (allS g_it_317 all0)).keep P350_0 (allS g_b167 all0))
  obtain ⟨_, T364, L364, X364, hQ364, st364⟩ := own_cIW X358 hx hZ hw hown (b := it_317) (W := 0) (rm_ln2_1 l Z a0 hw [] it_317 L1 N10 N11 em (.int 0) T350.heap n0 ZZ351 Fc359 g_it_317 Fc354 Fc355 Fc356 Fc357 Fc360 Fc361 Fc362 Ol363 S_EMPTY E_em ne_N11_em) (by decide) (by decide) (by decide) 375 rfl 190 rfl 191 rfl 407 rfl 408 rfl 409 rfl 410 rfl 405 rfl 411 rfl 383 rfl P358_0 Fc359 (g := (mkF m 179 #[oR r0, oR r1, oI 9, oR it_177, oR o1, oR it_317, oR N10, oR it_350, oD d102, oV] [(.ref it_317)])) rfl (by rw [hml]; rfl) (argsL := []) (rest := []) (lenOf pd22 rfl) rfl (Nat.le_of_eq rfl) (hb hby d46_179) rfl (cN := 7) rfl (by decide) (sN := 36) rfl (by decide)
  obtain ⟨rfl, Nq364, P364_0, P364_1, P364_2, P364_3, P364_4⟩ := hQ364
  have N364 := Fr.app N358 Nq364
  have ZZ365 : n0 ≤ T364.heap.size := Nat.le_trans ZZ351 P364_0.1
  have KK366 : Keep h0 T364.heap [r0] := Keep.trans KK352 P364_0 (allS (Or.inr sz_it_317) all0)
  have Fc367 := (E_N11.keep KK366)
  obtain ⟨T368, X368, e368, st368⟩ := castY X364 hx hZ hown (own_w hw 356 rfl) rfl (Ins.of_exa Fc367 (own_w hw 357 rfl)) (g := (mkF m 184 #[oR r0, oR r1, oI 9, oR it_177, oR o1, oR it_317, oR N10, oR it_350, oD d102, oV] [(.ref N11)])) rfl rfl (hb hby d46_184)
  have Fc369 := ((Fc329.keep P350_0).keep P364_0)
  have Fc370 := ((Fc331.keep P350_0 (ninS (Ne.symm nq218) nin0)).keep P364_0 (ninS nq330 nin0))
  have Fc371 := (Vr353.keep P364_0 (ninS nq332 nin0))
  have Fc372 := ((Fc334.keep P350_0).keep P364_0)
  have nq373 : N11 ≠ r0 := (ne_exa Fc367 Fc369 (by decide))
  have Fc374 := (F_elements_N11.keep KK366 (ninS nq373 nin0))
  have Fc375 := (F_allowNulls_N11.keep KK366 (ninS nq373 nin0))
  have Fc376 := (E_A11.keep KK366)
  have nq377 : A11 ≠ r0 := (ne_exa Fc376 Fc369 (by decide))
  have Fc378 := (V_A11.keep KK366 (ninS nq377 nin0))
  have Fc379 := (E_x110.keep KK366)
  have nq380 : x110 ≠ r0 := (ne_exa Fc379 Fc369 (by decide))
  have Fc381 := (F_value_x110.keep KK366 (ninS nq380 nin0))
  have Fc382 := (E_x111.keep KK366)
  have nq383 : x111 ≠ r0 := (ne_exa Fc382 Fc369 (by decide))
  have Fc384 := (F_value_x111.keep KK366 (ninS nq383 nin0))
  have Fc385 := (E_x112.keep KK366)
  have nq386 : x112 ≠ r0 := (ne_exa Fc385 Fc369 (by decide))
  have Fc387 := (F_value_x112.keep KK366 (ninS nq386 nin0))
  obtain ⟨it_388, T388, L388, X388, N388, P388_0, P388_1, st388⟩ := own_VS l Z a0 hw r0 r1 it_177 o1 it_317 N11 b167 A11 x110 x111 x112 k167 kA11 (9 : Int32) (12 : Int32) 9 [(.double d000), (.double d001), (.double d002), (.double d010), (.double d011), (.double d012), (.double d100), (.double d101), (.double d102), (.double 0), (.double 0), (.double 0)] (.int 0) d110 d111 d112 (.val (.ref it_350)) (.val (.double d102)) (oV) 7 36 T364.heap n0 ZZ365 Fc369 Fc370 Fc371 Fc372 g_b167 Fc367 Fc374 Fc375 Fc378 Fc376 Fc379 Fc381 Fc382 Fc384 Fc385 Fc387 (⟨by decide, by decide⟩) (by decide) (Nat.le_of_ble_eq_true rfl) (⟨by decide, by decide⟩) (by decide) (Nat.le_of_ble_eq_true rfl) (⟨by decide, by decide⟩) (by decide) (Nat.le_of_ble_eq_true rfl) (by decide) (One.val rfl) (Or.inr ⟨_, rfl, rfl⟩) (by decide) (by decide) hx hby hml hZ hown hnm X368 e368 N364
  have ZZ389 : n0 ≤ T388.heap.size := Nat.le_trans ZZ365 P388_0.1
  have KK390 : Keep h0 T388.heap [r0] := Keep.trans KK366 P388_0 (allS (Or.inr sz_b167) all0)
  have Vr391 : Arv Z T388.heap b167 k167 .double (12 : Int32) [(.double d000), (.double d001), (.double d002), (.double d010), (.double d011), (.double d012), (.double d100), (.double d101), (.double d102), (.double d110), (.double d111), (.double d112)] (.double 0) := P388_1
  have Fc392 := (P364_1.keep P388_0 (ninS (Ne.symm nq332) nin0))
  have Fc393 := (P364_2.keep P388_0 (ninS (Ne.symm nq332) nin0))
  have Fc394 := (P364_3.keep P388_0 (ninS (Ne.symm nq332) nin0))
  have Fc395 := (P364_4.keep P388_0 (ninS (Ne.symm nq332) nin0))
  have Fc397 := ((Fc359.keep P364_0).keep P388_0)
  obtain ⟨_, T396, L396, X396, hQ396, st396⟩ := own_cI X388 hx hZ hw hown (b := it_317) (W := 0) (rm_lh0 l Z a0 hw [] it_317 (2 : Int32) (2 : Int32) (.ref L1) (.int 0) T388.heap n0 ZZ389 Fc392 Fc393 Fc394 Fc395 rfl) (by decide) (by decide) (by decide) 374 rfl 178 rfl 179 rfl 401 rfl 402 rfl 403 rfl 404 rfl 405 rfl 406 rfl 383 rfl rfl Fc397 (g := (mkF m 169 #[oR r0, oR r1, oI 12, oR it_177, oR o1, oR it_317, oR N11, oR it_388, oD d112, oV] [(.ref it_317)])) rfl (by rw [hml]; rfl) (argsL := []) (rest := []) (lenOf pd15 rfl) rfl (Nat.le_of_eq rfl) (hb hby d46_169) rfl (cN := 8) rfl (by decide) (sN := 40) rfl (by decide)
  obtain ⟨rfl, Nq396, P396_0⟩ := hQ396
  have N396 := Fr.app N388 Nq396
  have nq398 : it_177 ≠ it_317 := (Nat.ne_of_lt (Nat.lt_of_lt_of_le Fr304.lt P317_1))
  have Fc399 := (((((Fr304.keep P317_0 nin0).keep P324_0 (ninS nq398 nin0)).keep P350_0 (ninS (Ne.symm nq219) nin0)).keep P364_0 (ninS nq398 nin0)).keep P388_0 (ninS (Ne.symm nq219) nin0))
  have Fc400 := (((((P301_2.keep P317_0 nin0).keep P324_0 (ninS nq398 nin0)).keep P350_0 (ninS (Ne.symm nq219) nin0)).keep P364_0 (ninS nq398 nin0)).keep P388_0 (ninS (Ne.symm nq219) nin0))
  have Fc401 := (((((P301_3.keep P317_0 nin0).keep P324_0 (ninS nq398 nin0)).keep P350_0 (ninS (Ne.symm nq219) nin0)).keep P364_0 (ninS nq398 nin0)).keep P388_0 (ninS (Ne.symm nq219) nin0))
  have Fc402 := (((((P301_4.keep P317_0 nin0).keep P324_0 (ninS nq398 nin0)).keep P350_0 (ninS (Ne.symm nq219) nin0)).keep P364_0 (ninS nq398 nin0)).keep P388_0 (ninS (Ne.symm nq219) nin0))
  have Fc403 := (E_r1.keep KK390)
  have nq404 : r1 ≠ it_317 := (ne_exa Fc403 Fc397 (by decide))
  have Fc405 := ((((((Fc295.keep P301_0 (ninS nq292 nin0)).keep P317_0 nin0).keep P324_0 (ninS nq404 nin0)).keep P350_0 (ninS nq294 nin0)).keep P364_0 (ninS nq404 nin0)).keep P388_0 (ninS nq294 nin0))
  have Fc407 := ((((((Fc291.keep P301_0).keep P317_0).keep P324_0).keep P350_0).keep P364_0).keep P388_0)
  obtain ⟨_, T406, L406, X406, hQ406, st406⟩ := own_cI X396 hx hZ hw hown (b := it_177) (W := 0) (rm_hn0 l Z a0 hw [] it_177 r1 (2 : Int32) (2 : Int32) (2 : Int32) (.int 1) T388.heap n0 ZZ389 Fc399 Fc400 Fc401 Fc402 Fc405 rfl) (by decide) (by decide) (by decide) 374 rfl 178 rfl 179 rfl 180 rfl 181 rfl 182 rfl 183 rfl 184 rfl 185 rfl 164 rfl P396_0 Fc407 (g := (mkF m 136 #[oR r0, oR r1, oI 12, oR it_177, oR o1, oR it_317, oR N11, oR it_388, oD d112, oV] [(.ref it_177)])) rfl (by rw [hml]; rfl) (argsL := []) (rest := []) (lenOf pd15 rfl) rfl (Nat.le_of_eq rfl) (hb hby d46_136) rfl (cN := 8) rfl (by decide) (sN := 40) rfl (by decide)
  obtain ⟨rfl, Nq406, P406_0⟩ := hQ406
  have N406 := Fr.app N396 Nq406
  have Fc408 := (((((((((((((((Fw160.ext E167).other W172 (Or.inr (Ne.symm (sn27 hw)))).keep P177_0 nin0).keep P187_0 (ninS nq214 nin0)).keep P202_0 nin0).keep P207_0 (ninS nq215 nin0)).keep P235_0 (ninS (Ne.symm nq218) nin0)).keep P251_0 (ninS nq215 nin0)).keep P275_0 (ninS (Ne.symm nq218) nin0)).keep P301_0 (ninS nq214 nin0)).keep P317_0 nin0).keep P324_0 (ninS nq330 nin0)).keep P350_0 (ninS (Ne.symm nq218) nin0)).keep P364_0 (ninS nq330 nin0)).keep P388_0 (ninS (Ne.symm nq218) nin0))
  obtain ⟨T409, X409, e409, st409⟩ := getF X406 hx hZ hown (host := "") (Or.inl (own_w hw 365 rfl)) Via.refl P406_0 Fc408 (g := (mkF m 245 #[oR r0, oR r1, oI 12, oR it_177, oR o1, oR it_317, oR N11, oR it_388, oD d112, oV] [(.ref r0), (.ref r0)])) rfl rfl (hb hby d46_245)
  obtain ⟨T410, h410, k410, X410, e410, E410, A410, Ea410, st410⟩ := newPE X409 hx hZ (own_w hw 370 rfl) e409 (g := (mkF m 248 #[oR r0, oR r1, oI 12, oR it_177, oR o1, oR it_317, oR N11, oR it_388, oD d112, oV] [(.int 4), (.ref r0)])) rfl (hb hby d46_248) rfl (by decide) (cap := 4) (by decide) (by decide) (by decide) (by decide) (ad := "[D") (by decide)
  obtain ⟨b410, g410⟩ : ∃ z, z = T388.heap.size := ⟨_, rfl⟩
  rw [← g410] at A410 Ea410 st410
  have g_b410 : n0 ≤ b410 := Nat.le_trans ZZ389 (Nat.le_of_eq g410.symm)
  have sz_b410 : h0.size ≤ b410 := Nat.le_trans KK390.1 (Nat.le_of_eq g410.symm)
  have ZZ411 : n0 ≤ h410.size := Nat.le_trans ZZ389 E410.1
  have KK412 : Keep h0 h410 [r0] := KK390.ext E410
  have V_b410 : Arv Z h410 b410 k410 .double (4 : Int32) [(.double 0), (.double 0), (.double 0), (.double 0)] (.double 0) := (Arv.new A410 (by decide)).pad (pad_rep [] (.double 0) 4)
  have Fc413 := ((((((((((((((((((((F_sums_r0.other W103 (Or.inr (sn28 hw))).other W122 (Or.inr (sn29 hw))).other W151 (Or.inr (sn30 hw))).other W160 (Or.inr (sn31 hw))).ext E167).other W172 (Or.inr (sn32 hw))).keep P177_0 nin0).keep P187_0 (ninS nq214 nin0)).keep P202_0 nin0).keep P207_0 (ninS nq215 nin0)).keep P235_0 (ninS (Ne.symm nq218) nin0)).keep P251_0 (ninS nq215 nin0)).keep P275_0 (ninS (Ne.symm nq218) nin0)).keep P301_0 (ninS nq214 nin0)).keep P317_0 nin0).keep P324_0 (ninS nq330 nin0)).keep P350_0 (ninS (Ne.symm nq218) nin0)).keep P364_0 (ninS nq330 nin0)).keep P388_0 (ninS (Ne.symm nq218) nin0)).ext E410)
  have Fc414 := ((Fc369.keep P388_0).ext E410)
  obtain ⟨T415, h415, X415, e415, W415, st415⟩ := putF X410 hx hZ hown (host := "") (Or.inl (own_w hw 423 rfl)) Via.refl e410 Fc413 Fc414 (Or.inl (own_w hw 424 rfl)) (own_w hw 324 rfl) (ty := (.array .double)) (by decide) rfl rfl (g := (mkF m 250 #[oR r0, oR r1, oI 12, oR it_177, oR o1, oR it_317, oR N11, oR it_388, oD d112, oV] [(.ref b410), (.ref r0)])) rfl rfl (hb hby d46_250)
  have Fw415 := Fc413.same W415
  have N415 := Fr.snoc X415 N406 g_r0
  have ZZ416 : n0 ≤ h415.size := Nat.le_trans ZZ411 (Nat.le_of_eq W415.size.symm)
  have KK417 : Keep h0 h415 [r0] := KK412.wr W415 (Or.inl (List.mem_of_getElem? (i := 0) rfl))
  have Fc418 := ((Fc408.ext E410).other W415 (Or.inr (Ne.symm (sn31 hw))))
  obtain ⟨T419, X419, e419, st419⟩ := getF X415 hx hZ hown (host := "") (Or.inl (own_w hw 365 rfl)) Via.refl e415 Fc418 (g := (mkF m 257 #[oR r0, oR r1, oI 12, oI 0, oR o1, oR it_317, oR N11, oR it_388, oD d112, oV] [(.ref r0), (.int 0)])) rfl rfl (hb hby d46_257)
  obtain ⟨T420, X420, e420, st420⟩ := getF X419 hx hZ hown (host := "") (Or.inl (own_w hw 423 rfl)) Via.refl e419 Fw415 (g := (mkF m 264 #[oR r0, oR r1, oI 12, oI 0, oR o1, oR it_317, oR N11, oR it_388, oD d112, oV] [(.ref r0)])) rfl rfl (hb hby d46_264)
  have Fc421 := (((((((((((((((((Fc164.ext E167).other W172 (Or.inr (Ne.symm (sn26 hw)))).keep P177_0 nin0).keep P187_0 (ninS nq214 nin0)).keep P202_0 nin0).keep P207_0 (ninS nq215 nin0)).keep P235_0 (ninS (Ne.symm nq218) nin0)).keep P251_0 (ninS nq215 nin0)).keep P275_0 (ninS (Ne.symm nq218) nin0)).keep P301_0 (ninS nq214 nin0)).keep P317_0 nin0).keep P324_0 (ninS nq330 nin0)).keep P350_0 (ninS (Ne.symm nq218) nin0)).keep P364_0 (ninS nq330 nin0)).keep P388_0 (ninS (Ne.symm nq218) nin0)).ext E410).other W415 (Or.inr (Ne.symm (sn30 hw))))
  have Fc422 := (((Fc370.keep P388_0 (ninS (Ne.symm nq218) nin0)).ext E410).other W415 (Or.inr (Ne.symm (sn32 hw))))
  have Fc423 := ((Vr391.ext E410).other W415 nq218)
  obtain ⟨_, T424, L424, X424, hQ424, st424⟩ := own_cP X420 hx hZ hw hown (b := r0) (W := 2) (rmm57 l Z a0 hw [] r0 (0 : Int32) b167 k167 [(.double d000), (.double d001), (.double d002), (.double d010), (.double d011), (.double d012), (.double d100), (.double d101), (.double d102), (.double d110), (.double d111), (.double d112)] d000 d001 d002 h415 n0 ZZ416 (Fc414.wr W415) Fc421 Fc422 Fc423 (⟨by decide, by decide⟩) rfl (⟨by decide, by decide⟩) rfl (⟨by decide, by decide⟩) rfl ha0 hb0_ hc0_) (by decide) (by decide) (by decide) 425 rfl 426 rfl 427 rfl 428 rfl 325 rfl (own_selP (y := (⟨kIV, "sumOf", "(I)D"⟩ : MethodName)) (y2 := (⟨kIV, "score", "(II)D"⟩ : MethodName)) (own_w hw 432 rfl) rfl (own_w hw 427 rfl) (own_w hw 426 rfl) (by decide)) e420 (Fc414.wr W415) (g := (mkF m 270 #[oR r0, oR r1, oI 12, oI 0, oR o1, oR it_317, oR N11, oR it_388, oD d112, oV] [(.int 0), (.ref r0), (.int 0), (.ref b410)])) rfl (by rw [hml]; rfl) (argsL := [(.int 0)]) (rest := [(.int 0), (.ref b410)]) (lenOf pd29 rfl) rfl (Nat.le_of_eq rfl) (hb hby d46_270) rfl (cN := 9) rfl (by decide) (sN := 44) rfl (by decide)
  obtain ⟨rfl, Nq424, P424_0⟩ := hQ424
  have N424 := Fr.app N415 Nq424
  have nq425 : b410 ≠ r0 := (ne_exa (Ea410.wr W415) (Fc414.wr W415) (by decide))
  have Fc426 := (V_b410.other W415 nq425)
  obtain ⟨cl427, Ar427, qk427, Sz427, Nz427, Hh427, Gg427⟩ := id Fc426
  have hin428 : ¬ ((0 : Int32) < 0 ∨ cl427.slots.size ≤ ((0 : Int32)).toNatClampNeg) := inb_of Sz427 ⟨by decide, by decide⟩
  obtain ⟨T429, h429, X429, e429, W429, st429⟩ := stD X424 hx hZ P424_0 Ar427 (j := (0 : Int32)) hin428 (g := (mkF m 273 #[oR r0, oR r1, oI 12, oI 0, oR o1, oR it_317, oR N11, oR it_388, oD d112, oV] [(.double (FP.dadd (FP.dadd (FP.dadd (0 : UInt64) d000) d001) d002)), (.int 0), (.ref b410)])) rfl rfl (hb hby d46_273)
  have Va429 := Arv.set Ar427 qk427 Sz427 Nz427 Hh427 Gg427 rfl W429 0 rfl (Nat.le_of_ble_eq_true rfl)
  have N429 := Fr.snoc X429 N424 g_b410
  have ZZ430 : n0 ≤ h429.size := Nat.le_trans ZZ416 (Nat.le_of_eq W429.size.symm)
  have KK431 : Keep h0 h429 [r0] := KK417.wr W429 (Or.inr sz_b410)
  have Fc432 := (Fc418.other W429 (Or.inl (Ne.symm nq425)))
  obtain ⟨T433, X433, e433, st433⟩ := getF X429 hx hZ hown (host := "") (Or.inl (own_w hw 365 rfl)) Via.refl e429 Fc432 (g := (mkF m 257 #[oR r0, oR r1, oI 12, oI 1, oR o1, oR it_317, oR N11, oR it_388, oD d112, oV] [(.ref r0), (.int 1)])) rfl rfl (hb hby d46_257)
  have Fc434 := (Fw415.other W429 (Or.inl (Ne.symm nq425)))
  obtain ⟨T435, X435, e435, st435⟩ := getF X433 hx hZ hown (host := "") (Or.inl (own_w hw 423 rfl)) Via.refl e433 Fc434 (g := (mkF m 264 #[oR r0, oR r1, oI 12, oI 1, oR o1, oR it_317, oR N11, oR it_388, oD d112, oV] [(.ref r0)])) rfl rfl (hb hby d46_264)
  have Fc436 := ((Fc414.wr W415).wr W429)
  have Fc437 := (Fc421.other W429 (Or.inl (Ne.symm nq425)))
  have Fc438 := (Fc422.other W429 (Or.inl (Ne.symm nq425)))
  have nq439 : b167 ≠ b410 := (Nat.ne_of_lt (Nat.lt_of_lt_of_le P388_1.lt (Nat.le_of_eq g410.symm)))
  obtain ⟨_, T440, L440, X440, hQ440, st440⟩ := own_cP X435 hx hZ hw hown (b := r0) (W := 2) (rmm57 l Z a0 hw [] r0 (1 : Int32) b167 k167 [(.double d000), (.double d001), (.double d002), (.double d010), (.double d011), (.double d012), (.double d100), (.double d101), (.double d102), (.double d110), (.double d111), (.double d112)] d010 d011 d012 h429 n0 ZZ430 Fc436 Fc437 Fc438 (Fc423.other W429 nq439) (⟨by decide, by decide⟩) rfl (⟨by decide, by decide⟩) rfl (⟨by decide, by decide⟩) rfl ha1 hb1_ hc1_) (by decide) (by decide) (by decide) 425 rfl 426 rfl 427 rfl 428 rfl 325 rfl (own_selP (y := (⟨kIV, "sumOf", "(I)D"⟩ : MethodName)) (y2 := (⟨kIV, "score", "(II)D"⟩ : MethodName)) (own_w hw 432 rfl) rfl (own_w hw 427 rfl) (own_w hw 426 rfl) (by decide)) e435 Fc436 (g := (mkF m 270 #[oR r0, oR r1, oI 12, oI 1, oR o1, oR it_317, oR N11, oR it_388, oD d112, oV] [(.int 1), (.ref r0), (.int 1), (.ref b410)])) rfl (by rw [hml]; rfl) (argsL := [(.int 1)]) (rest := [(.int 1), (.ref b410)]) (lenOf pd29 rfl) rfl (Nat.le_of_eq rfl) (hb hby d46_270) rfl (cN := 9) rfl (by decide) (sN := 44) rfl (by decide)
  obtain ⟨rfl, Nq440, P440_0⟩ := hQ440
  have N440 := Fr.app N429 Nq440
  obtain ⟨cl441, Ar441, qk441, Sz441, Nz441, Hh441, Gg441⟩ := id Va429
  have hin442 : ¬ ((1 : Int32) < 0 ∨ cl441.slots.size ≤ ((1 : Int32)).toNatClampNeg) := inb_of Sz441 ⟨by decide, by decide⟩
  obtain ⟨T443, h443, X443, e443, W443, st443⟩ := stD X440 hx hZ P440_0 Ar441 (j := (1 : Int32)) hin442 (g := (mkF m 273 #[oR r0, oR r1, oI 12, oI 1, oR o1, oR it_317, oR N11, oR it_388, oD d112, oV] [(.double (FP.dadd (FP.dadd (FP.dadd (0 : UInt64) d010) d011) d012)), (.int 1), (.ref b410)])) rfl rfl (hb hby d46_273)
  have Va443 := Arv.set Ar441 qk441 Sz441 Nz441 Hh441 Gg441 rfl W443 1 rfl (Nat.le_of_ble_eq_true rfl)
  have N443 := Fr.snoc X443 N440 g_b410
  have ZZ444 : n0 ≤ h443.size := Nat.le_trans ZZ430 (Nat.le_of_eq W443.size.symm)
  have KK445 : Keep h0 h443 [r0] := KK431.wr W443 (Or.inr sz_b410)
  have Fc446 := (Fc432.other W443 (Or.inl (Ne.symm nq425)))
  obtain ⟨T447, X447, e447, st447⟩ := getF X443 hx hZ hown (host := "") (Or.inl (own_w hw 365 rfl)) Via.refl e443 Fc446 (g := (mkF m 257 #[oR r0, oR r1, oI 12, oI 2, oR o1, oR it_317, oR N11, oR it_388, oD d112, oV] [(.ref r0), (.int 2)])) rfl rfl (hb hby d46_257)
  have Fc448 := (Fc434.other W443 (Or.inl (Ne.symm nq425)))
  obtain ⟨T449, X449, e449, st449⟩ := getF X447 hx hZ hown (host := "") (Or.inl (own_w hw 423 rfl)) Via.refl e447 Fc448 (g := (mkF m 264 #[oR r0, oR r1, oI 12, oI 2, oR o1, oR it_317, oR N11, oR it_388, oD d112, oV] [(.ref r0)])) rfl rfl (hb hby d46_264)
  have Fc450 := (Fc437.other W443 (Or.inl (Ne.symm nq425)))
  have Fc451 := (Fc438.other W443 (Or.inl (Ne.symm nq425)))
  have Fc452 := ((Fc423.other W429 nq439).other W443 nq439)
  obtain ⟨_, T453, L453, X453, hQ453, st453⟩ := own_cP X449 hx hZ hw hown (b := r0) (W := 2) (rmm57 l Z a0 hw [] r0 (2 : Int32) b167 k167 [(.double d000), (.double d001), (.double d002), (.double d010), (.double d011), (.double d012), (.double d100), (.double d101), (.double d102), (.double d110), (.double d111), (.double d112)] d100 d101 d102 h443 n0 ZZ444 (Fc436.wr W443) Fc450 Fc451 Fc452 (⟨by decide, by decide⟩) rfl (⟨by decide, by decide⟩) rfl (⟨by decide, by decide⟩) rfl ha2 hb2_ hc2_) (by decide) (by decide) (by decide) 425 rfl 426 rfl 427 rfl 428 rfl 325 rfl (own_selP (y := (⟨kIV, "sumOf", "(I)D"⟩ : MethodName)) (y2 := (⟨kIV, "score", "(II)D"⟩ : MethodName)) (own_w hw 432 rfl) rfl (own_w hw 427 rfl) (own_w hw 426 rfl) (by decide)) e449 (Fc436.wr W443) (g := (mkF m 270 #[oR r0, oR r1, oI 12, oI 2, oR o1, oR it_317, oR N11, oR it_388, oD d112, oV] [(.int 2), (.ref r0), (.int 2), (.ref b410)])) rfl (by rw [hml]; rfl) (argsL := [(.int 2)]) (rest := [(.int 2), (.ref b410)]) (lenOf pd29 rfl) rfl (Nat.le_of_eq rfl) (hb hby d46_270) rfl (cN := 9) rfl (by decide) (sN := 44) rfl (by decide)
  obtain ⟨rfl, Nq453, P453_0⟩ := hQ453
  have N453 := Fr.app N443 Nq453
  obtain ⟨cl454, Ar454, qk454, Sz454, Nz454, Hh454, Gg454⟩ := id Va443
  have hin455 : ¬ ((2 : Int32) < 0 ∨ cl454.slots.size ≤ ((2 : Int32)).toNatClampNeg) := inb_of Sz454 ⟨by decide, by decide⟩
  obtain ⟨T456, h456, X456, e456, W456, st456⟩ := stD X453 hx hZ P453_0 Ar454 (j := (2 : Int32)) hin455 (g := (mkF m 273 #[oR r0, oR r1, oI 12, oI 2, oR o1, oR it_317, oR N11, oR it_388, oD d112, oV] [(.double (FP.dadd (FP.dadd (FP.dadd (0 : UInt64) d100) d101) d102)), (.int 2), (.ref b410)])) rfl rfl (hb hby d46_273)
  have Va456 := Arv.set Ar454 qk454 Sz454 Nz454 Hh454 Gg454 rfl W456 2 rfl (Nat.le_of_ble_eq_true rfl)
  have N456 := Fr.snoc X456 N453 g_b410
  have ZZ457 : n0 ≤ h456.size := Nat.le_trans ZZ444 (Nat.le_of_eq W456.size.symm)
  have KK458 : Keep h0 h456 [r0] := KK445.wr W456 (Or.inr sz_b410)
  have Fc459 := (Fc446.other W456 (Or.inl (Ne.symm nq425)))
  obtain ⟨T460, X460, e460, st460⟩ := getF X456 hx hZ hown (host := "") (Or.inl (own_w hw 365 rfl)) Via.refl e456 Fc459 (g := (mkF m 257 #[oR r0, oR r1, oI 12, oI 3, oR o1, oR it_317, oR N11, oR it_388, oD d112, oV] [(.ref r0), (.int 3)])) rfl rfl (hb hby d46_257)
  have Fc461 := (Fc448.other W456 (Or.inl (Ne.symm nq425)))
  obtain ⟨T462, X462, e462, st462⟩ := getF X460 hx hZ hown (host := "") (Or.inl (own_w hw 423 rfl)) Via.refl e460 Fc461 (g := (mkF m 264 #[oR r0, oR r1, oI 12, oI 3, oR o1, oR it_317, oR N11, oR it_388, oD d112, oV] [(.ref r0)])) rfl rfl (hb hby d46_264)
  have Fc463 := ((Fc436.wr W443).wr W456)
  have Fc464 := (Fc450.other W456 (Or.inl (Ne.symm nq425)))
  have Fc465 := (Fc451.other W456 (Or.inl (Ne.symm nq425)))
  obtain ⟨_, T466, L466, X466, hQ466, st466⟩ := own_cP X462 hx hZ hw hown (b := r0) (W := 2) (rmm57 l Z a0 hw [] r0 (3 : Int32) b167 k167 [(.double d000), (.double d001), (.double d002), (.double d010), (.double d011), (.double d012), (.double d100), (.double d101), (.double d102), (.double d110), (.double d111), (.double d112)] d110 d111 d112 h456 n0 ZZ457 Fc463 Fc464 Fc465 (Fc452.other W456 nq439) (⟨by decide, by decide⟩) rfl (⟨by decide, by decide⟩) rfl (⟨by decide, by decide⟩) rfl ha3 hb3_ hc3_) (by decide) (by decide) (by decide) 425 rfl 426 rfl 427 rfl 428 rfl 325 rfl (own_selP (y := (⟨kIV, "sumOf", "(I)D"⟩ : MethodName)) (y2 := (⟨kIV, "score", "(II)D"⟩ : MethodName)) (own_w hw 432 rfl) rfl (own_w hw 427 rfl) (own_w hw 426 rfl) (by decide)) e462 Fc463 (g := (mkF m 270 #[oR r0, oR r1, oI 12, oI 3, oR o1, oR it_317, oR N11, oR it_388, oD d112, oV] [(.int 3), (.ref r0), (.int 3), (.ref b410)])) rfl (by rw [hml]; rfl) (argsL := [(.int 3)]) (rest := [(.int 3), (.ref b410)]) (lenOf pd29 rfl) rfl (Nat.le_of_eq rfl) (hb hby d46_270) rfl (cN := 9) rfl (by decide) (sN := 44) rfl (by decide)
  obtain ⟨rfl, Nq466, P466_0⟩ := hQ466
  have N466 := Fr.app N456 Nq466
  obtain ⟨cl467, Ar467, qk467, Sz467, Nz467, Hh467, Gg467⟩ := id Va456
  have hin468 : ¬ ((3 : Int32) < 0 ∨ cl467.slots.size ≤ ((3 : Int32)).toNatClampNeg) := inb_of Sz467 ⟨by decide, by decide⟩
  obtain ⟨T469, h469, X469, e469, W469, st469⟩ := stD X466 hx hZ P466_0 Ar467 (j := (3 : Int32)) hin468 (g := (mkF m 273 #[oR r0, oR r1, oI 12, oI 3, oR o1, oR it_317, oR N11, oR it_388, oD d112, oV] [(.double (FP.dadd (FP.dadd (FP.dadd (0 : UInt64) d110) d111) d112)), (.int 3), (.ref b410)])) rfl rfl (hb hby d46_273)
  have Va469 := Arv.set Ar467 qk467 Sz467 Nz467 Hh467 Gg467 rfl W469 3 rfl (Nat.le_of_ble_eq_true rfl)
  have N469 := Fr.snoc X469 N466 g_b410
  have ZZ470 : n0 ≤ h469.size := Nat.le_trans ZZ457 (Nat.le_of_eq W469.size.symm)
  have KK471 : Keep h0 h469 [r0] := KK458.wr W469 (Or.inr sz_b410)
  have Fc472 := (Fc459.other W469 (Or.inl (Ne.symm nq425)))
  obtain ⟨T473, X473, e473, st473⟩ := getF X469 hx hZ hown (host := "") (Or.inl (own_w hw 365 rfl)) Via.refl e469 Fc472 (g := (mkF m 257 #[oR r0, oR r1, oI 12, oI 4, oR o1, oR it_317, oR N11, oR it_388, oD d112, oV] [(.ref r0), (.int 4)])) rfl rfl (hb hby d46_257)
  obtain ⟨fs, hr, hrun, hended, hW, hsame⟩ := X473.leave (v := none) (fun _ => rfl)
  refine ⟨_, _, pre0 _ ?_, hrun, hended, _, _, rfl, ?_, ⟨_, rfl⟩, hW, hsame.mono (by decide) (by decide)⟩
  · show own_S p e below s₁ m 0 #[oR r0, oR r1, oU, oU, oU, oU, oU, oU, oU, oU] [] _
    refine XS.aloadN X0.here hx rfl (hb hby d46_0) rfl rfl ?_
    show own_S p e below s₁ m 1 _ [(.ref r0)] _
    refine st101 _ ?_
    show own_S p e below T101 m 4 _ [] _
    refine XS.aloadN X101.here hx rfl (hb hby d46_4) rfl rfl ?_
    refine XS.aloadN X101.here hx rfl (hb hby d46_5) rfl rfl ?_
    show own_S p e below T101 m 6 _ [(.ref r1), (.ref r0)] _
    refine st102.trans ?_
    show own_S p e below T102 m 11 _ [(.int 2), (.ref r0)] _
    refine st103 _ ?_
    show own_S p e below T103 m 14 _ [] _
    refine XS.aloadN X103.here hx rfl (hb hby d46_14) rfl rfl ?_
    refine XS.aloadN X103.here hx rfl (hb hby d46_15) rfl rfl ?_
    show own_S p e below T103 m 16 _ [(.ref r1), (.ref r0)] _
    refine st108.trans ?_
    show own_S p e below T108 m 21 _ [(.int 0), (.ref r0)] _
    refine XS.ifYes X108.here hx rfl (pc0 := 21) (pc' := 28) rfl (hb hby d46_21) rfl ((if0 _ _).trans (teq (by decide : (0 : Int32) = (0 : Int32))).1) (by decide) (by decide) ?_
    refine XS.aloadN X108.here hx rfl (hb hby d46_28) rfl rfl ?_
    refine XS.iconst X108.here hx rfl (hb hby d46_29) ?_
    show own_S p e below T108 m 30 _ [(.int 0), (.ref r1), (.ref r0)] _
    refine st111.trans ?_
    show own_S p e below T111 m 35 _ [(.ref o0), (.ref r0)] _
    refine st112 _ ?_
    show own_S p e below T112 m 38 #[oR r0, oR r1, oU, oU, oU, oU, oU, oU, oU, oU] [(.ref o0), (.ref r0)] _
    refine st116.trans ?_
    show own_S p e below T116 m 41 _ [(.ref L0), (.ref r0)] _
    refine st120.trans ?_
    show own_S p e below T120 m 46 _ [(.int 2), (.ref r0)] _
    refine st122 _ ?_
    show own_S p e below T122 m 49 _ [] _
    refine XS.aloadN X122.here hx rfl (hb hby d46_49) rfl rfl ?_
    refine XS.aloadN X122.here hx rfl (hb hby d46_50) rfl rfl ?_
    show own_S p e below T122 m 51 _ [(.ref r1), (.ref r0)] _
    refine st126.trans ?_
    show own_S p e below T126 m 56 _ [(.int 0), (.ref r0)] _
    refine XS.ifYes X126.here hx rfl (pc0 := 56) (pc' := 63) rfl (hb hby d46_56) rfl ((if0 _ _).trans (teq (by decide : (0 : Int32) = (0 : Int32))).1) (by decide) (by decide) ?_
    refine XS.aloadN X126.here hx rfl (hb hby d46_63) rfl rfl ?_
    refine XS.iconst X126.here hx rfl (hb hby d46_64) ?_
    show own_S p e below T126 m 65 _ [(.int 0), (.ref r1), (.ref r0)] _
    refine st130.trans ?_
    show own_S p e below T130 m 70 _ [(.ref o0), (.ref r0)] _
    refine st132 _ ?_
    show own_S p e below T132 m 73 _ [(.ref o0), (.ref r0)] _
    refine st135.trans ?_
    show own_S p e below T135 m 76 _ [(.ref L0), (.ref r0)] _
    refine XS.iconst X135.here hx rfl (hb hby d46_76) ?_
    show own_S p e below T135 m 77 _ [(.int 0), (.ref L0), (.ref r0)] _
    refine st139.trans ?_
    show own_S p e below T139 m 82 #[oR r0, oR r1, oU, oU, oU, oU, oU, oU, oU, oU] [(.ref N00), (.ref r0)] _
    refine st142 _ ?_
    show own_S p e below T142 m 85 _ [(.ref N00), (.ref r0)] _
    refine st149.trans ?_
    show own_S p e below T149 m 90 _ [(.int 3), (.ref r0)] _
    refine st151 _ ?_
    show own_S p e below T151 m 93 _ [] _
    refine XS.aloadN X151.here hx rfl (hb hby d46_93) rfl rfl ?_
    refine XS.aloadN X151.here hx rfl (hb hby d46_94) rfl rfl ?_
    show own_S p e below T151 m 95 _ [(.ref r0), (.ref r0)] _
    refine st155 _ ?_
    show own_S p e below T155 m 98 _ [(.int 2), (.ref r0)] _
    refine XS.aloadN X155.here hx rfl (hb hby d46_98) rfl rfl ?_
    show own_S p e below T155 m 99 #[oR r0, oR r1, oU, oU, oU, oU, oU, oU, oU, oU] [(.ref r0), (.int 2), (.ref r0)] _
    refine st157 _ ?_
    show own_S p e below T157 m 102 _ [(.int 2), (.int 2), (.ref r0)] _
    refine XS.imul X157.here hx rfl (hb hby d46_102) rfl ?_
    show own_S p e below T157 m 103 _ [(.int ((2 : Int32) * (2 : Int32))), (.ref r0)] _
    refine reI (by decide : ((2 : Int32) * (2 : Int32)) = (4 : Int32)) ?_
    show own_S p e below T157 m 103 _ [(.int 4), (.ref r0)] _
    refine st160 _ ?_
    show own_S p e below T160 m 106 _ [] _
    refine XS.aloadN X160.here hx rfl (hb hby d46_106) rfl rfl ?_
    refine XS.aloadN X160.here hx rfl (hb hby d46_107) rfl rfl ?_
    show own_S p e below T160 m 108 _ [(.ref r0), (.ref r0)] _
    refine st163 _ ?_
    show own_S p e below T163 m 111 #[oR r0, oR r1, oU, oU, oU, oU, oU, oU, oU, oU] [(.int 4), (.ref r0)] _
    refine XS.i2l X163.here hx rfl (hb hby d46_111) rfl ?_
    show own_S p e below T163 m 112 _ [(.long ((4 : Int32).toInt64)), (.ref r0)] _
    refine XS.aloadN X163.here hx rfl (hb hby d46_112) rfl rfl ?_
    show own_S p e below T163 m 113 _ [(.ref r0), (.long ((4 : Int32).toInt64)), (.ref r0)] _
    refine st165 _ ?_
    show own_S p e below T165 m 116 _ [(.int 3), (.long ((4 : Int32).toInt64)), (.ref r0)] _
    refine XS.i2l X165.here hx rfl (hb hby d46_116) rfl ?_
    show own_S p e below T165 m 117 _ [(.long ((3 : Int32).toInt64)), (.long ((4 : Int32).toInt64)), (.ref r0)] _
    refine XS.lmul X165.here hx rfl (hb hby d46_117) rfl ?_
    show own_S p e below T165 m 118 _ [(.long (((4 : Int32).toInt64) * ((3 : Int32).toInt64))), (.ref r0)] _
    refine reJ ((by decide) : (((4 : Int32).toInt64) * ((3 : Int32).toInt64)) = (12 : Int64)) ?_
    show own_S p e below T165 m 118 _ [(.long (12 : Int64)), (.ref r0)] _
    refine st166.trans ?_
    show own_S p e below T166 m 121 #[oR r0, oR r1, oU, oU, oU, oU, oU, oU, oU, oU] [(.int 12), (.ref r0)] _
    refine st167 _ ?_
    show own_S p e below T167 m 123 _ [(.ref b167), (.ref r0)] _
    refine st172 _ ?_
    show own_S p e below T172 m 126 _ [] _
    refine XS.iconst X172.here hx rfl (hb hby d46_126) ?_
    refine XS.istoreN X172.here hx rfl (hb hby d46_127) rfl (l' := #[oR r0, oR r1, oI 0, oU, oU, oU, oU, oU, oU, oU]) rfl ?_
    refine XS.aloadN X172.here hx rfl (hb hby d46_128) rfl rfl ?_
    show own_S p e below T172 m 129 _ [(.ref r1)] _
    refine st177.trans ?_
    show own_S p e below T177 m 134 _ [(.ref it_177)] _
    refine XS.astoreN X177.here hx rfl (hb hby d46_134) rfl rfl (l' := #[oR r0, oR r1, oI 0, oR it_177, oU, oU, oU, oU, oU, oU]) rfl ?_
    refine XS.aloadN X177.here hx rfl (hb hby d46_135) rfl rfl ?_
    show own_S p e below T177 m 136 _ [(.ref it_177)] _
    refine st181.trans ?_
    show own_S p e below T181 m 141 _ [(.int 1)] _
    refine XS.ifNo X181.here hx rfl (hb hby d46_141) rfl ((if0 _ _).trans (feq (by decide : ¬ ((1 : Int32) = (0 : Int32)))).1) ?_
    refine XS.aloadN X181.here hx rfl (hb hby d46_144) rfl rfl ?_
    show own_S p e below T181 m 145 _ [(.ref it_177)] _
    refine st187.trans ?_
    show own_S p e below T187 m 150 _ [(.ref o0)] _
    refine st192 _ ?_
    show own_S p e below T192 m 153 _ [(.ref o0)] _
    refine XS.astore X192.here hx rfl (hb hby d46_153) rfl rfl (l' := #[oR r0, oR r1, oI 0, oR it_177, oR o0, oU, oU, oU, oU, oU]) rfl ?_
    refine XS.aload X192.here hx rfl (hb hby d46_155) rfl rfl ?_
    show own_S p e below T192 m 157 _ [(.ref o0)] _
    refine st196.trans ?_
    show own_S p e below T196 m 160 _ [(.ref L0)] _
    refine st202.trans ?_
    show own_S p e below T202 m 165 _ [(.ref it_202)] _
    refine XS.astore X202.here hx rfl (hb hby d46_165) rfl rfl (l' := #[oR r0, oR r1, oI 0, oR it_177, oR o0, oR it_202, oU, oU, oU, oU]) rfl ?_
    refine XS.aload X202.here hx rfl (hb hby d46_167) rfl rfl ?_
    show own_S p e below T202 m 169 _ [(.ref it_202)] _
    refine st205.trans ?_
    show own_S p e below T205 m 174 _ [(.int 1)] _
    refine XS.ifNo X205.here hx rfl (hb hby d46_174) rfl ((if0 _ _).trans (feq (by decide : ¬ ((1 : Int32) = (0 : Int32)))).1) ?_
    refine XS.aload X205.here hx rfl (hb hby d46_177) rfl rfl ?_
    show own_S p e below T205 m 179 _ [(.ref it_202)] _
    refine st207.trans ?_
    show own_S p e below T207 m 184 _ [(.ref N00)] _
    refine st211 _ ?_
    show own_S p e below T211 m 187 _ [(.ref N00)] _
    refine XS.astore X211.here hx rfl (hb hby d46_187) rfl rfl (l' := #[oR r0, oR r1, oI 0, oR it_177, oR o0, oR it_202, oR N00, oU, oU, oU]) rfl ?_
    show own_S p e below T211 m 189 #[oR r0, oR r1, oI 0, oR it_177, oR o0, oR it_202, oR N00, oU, oU, oU] [] _
    refine st235 _ ?_
    show own_S p e below T235 m 167 #[oR r0, oR r1, oI 3, oR it_177, oR o0, oR it_202, oR N00, oR it_235, oD d002, oV] [] _
    refine XS.aload X235.here hx rfl (hb hby d46_167) rfl rfl ?_
    show own_S p e below T235 m 169 _ [(.ref it_202)] _
    refine st243.trans ?_
    show own_S p e below T243 m 174 _ [(.int 1)] _
    refine XS.ifNo X243.here hx rfl (hb hby d46_174) rfl ((if0 _ _).trans (feq (by decide : ¬ ((1 : Int32) = (0 : Int32)))).1) ?_
    refine XS.aload X243.here hx rfl (hb hby d46_177) rfl rfl ?_
    show own_S p e below T243 m 179 _ [(.ref it_202)] _
    refine st251.trans ?_
    show own_S p e below T251 m 184 _ [(.ref N01)] _
    refine st255 _ ?_
    show own_S p e below T255 m 187 _ [(.ref N01)] _
    refine XS.astore X255.here hx rfl (hb hby d46_187) rfl rfl (l' := #[oR r0, oR r1, oI 3, oR it_177, oR o0, oR it_202, oR N01, oR it_235, oD d002, oV]) rfl ?_
    show own_S p e below T255 m 189 #[oR r0, oR r1, oI 3, oR it_177, oR o0, oR it_202, oR N01, oR it_235, oD d002, oV] [] _
    refine st275 _ ?_
    show own_S p e below T275 m 167 #[oR r0, oR r1, oI 6, oR it_177, oR o0, oR it_202, oR N01, oR it_275, oD d012, oV] [] _
    refine XS.aload X275.here hx rfl (hb hby d46_167) rfl rfl ?_
    show own_S p e below T275 m 169 _ [(.ref it_202)] _
    refine st283.trans ?_
    show own_S p e below T283 m 174 _ [(.int 0)] _
    refine XS.ifYes X283.here hx rfl (pc0 := 174) (pc' := 240) rfl (hb hby d46_174) rfl ((if0 _ _).trans (teq (by decide : (0 : Int32) = (0 : Int32))).1) (by decide) (by decide) ?_
    refine XS.goto X283.here hx rfl (pc0 := 240) (pc' := 135) rfl (hb hby d46_240) (by decide) (by decide) ?_
    refine XS.aloadN X283.here hx rfl (hb hby d46_135) rfl rfl ?_
    show own_S p e below T283 m 136 _ [(.ref it_177)] _
    refine st296.trans ?_
    show own_S p e below T296 m 141 _ [(.int 1)] _
    refine XS.ifNo X296.here hx rfl (hb hby d46_141) rfl ((if0 _ _).trans (feq (by decide : ¬ ((1 : Int32) = (0 : Int32)))).1) ?_
    refine XS.aloadN X296.here hx rfl (hb hby d46_144) rfl rfl ?_
    show own_S p e below T296 m 145 _ [(.ref it_177)] _
    refine st301.trans ?_
    show own_S p e below T301 m 150 _ [(.ref o1)] _
    refine st306 _ ?_
    show own_S p e below T306 m 153 _ [(.ref o1)] _
    refine XS.astore X306.here hx rfl (hb hby d46_153) rfl rfl (l' := #[oR r0, oR r1, oI 6, oR it_177, oR o1, oR it_202, oR N01, oR it_275, oD d012, oV]) rfl ?_
    refine XS.aload X306.here hx rfl (hb hby d46_155) rfl rfl ?_
    show own_S p e below T306 m 157 _ [(.ref o1)] _
    refine st311.trans ?_
    show own_S p e below T311 m 160 _ [(.ref L1)] _
    refine st317.trans ?_
    show own_S p e below T317 m 165 _ [(.ref it_317)] _
    refine XS.astore X317.here hx rfl (hb hby d46_165) rfl rfl (l' := #[oR r0, oR r1, oI 6, oR it_177, oR o1, oR it_317, oR N01, oR it_275, oD d012, oV]) rfl ?_
    refine XS.aload X317.here hx rfl (hb hby d46_167) rfl rfl ?_
    show own_S p e below T317 m 169 _ [(.ref it_317)] _
    refine st320.trans ?_
    show own_S p e below T320 m 174 _ [(.int 1)] _
    refine XS.ifNo X320.here hx rfl (hb hby d46_174) rfl ((if0 _ _).trans (feq (by decide : ¬ ((1 : Int32) = (0 : Int32)))).1) ?_
    refine XS.aload X320.here hx rfl (hb hby d46_177) rfl rfl ?_
    show own_S p e below T320 m 179 _ [(.ref it_317)] _
    refine st324.trans ?_
    show own_S p e below T324 m 184 _ [(.ref N10)] _
    refine st328 _ ?_
    show own_S p e below T328 m 187 _ [(.ref N10)] _
    refine XS.astore X328.here hx rfl (hb hby d46_187) rfl rfl (l' := #[oR r0, oR r1, oI 6, oR it_177, oR o1, oR it_317, oR N10, oR it_275, oD d012, oV]) rfl ?_
    show own_S p e below T328 m 189 #[oR r0, oR r1, oI 6, oR it_177, oR o1, oR it_317, oR N10, oR it_275, oD d012, oV] [] _
    refine st350 _ ?_
    show own_S p e below T350 m 167 #[oR r0, oR r1, oI 9, oR it_177, oR o1, oR it_317, oR N10, oR it_350, oD d102, oV] [] _
    refine XS.aload X350.here hx rfl (hb hby d46_167) rfl rfl ?_
    show own_S p e below T350 m 169 _ [(.ref it_317)] _
    refine st358.trans ?_
    show own_S p e below T358 m 174 _ [(.int 1)] _
    refine XS.ifNo X358.here hx rfl (hb hby d46_174) rfl ((if0 _ _).trans (feq (by decide : ¬ ((1 : Int32) = (0 : Int32)))).1) ?_
    refine XS.aload X358.here hx rfl (hb hby d46_177) rfl rfl ?_
    show own_S p e below T358 m 179 _ [(.ref it_317)] _
    refine st364.trans ?_
    show own_S p e below T364 m 184 _ [(.ref N11)] _
    refine st368 _ ?_
    show own_S p e below T368 m 187 _ [(.ref N11)] _
    refine XS.astore X368.here hx rfl (hb hby d46_187) rfl rfl (l' := #[oR r0, oR r1, oI 9, oR it_177, oR o1, oR it_317, oR N11, oR it_350, oD d102, oV]) rfl ?_
    show own_S p e below T368 m 189 #[oR r0, oR r1, oI 9, oR it_177, oR o1, oR it_317, oR N11, oR it_350, oD d102, oV] [] _
    refine st388 _ ?_
    show own_S p e below T388 m 167 #[oR r0, oR r1, oI 12, oR it_177, oR o1, oR it_317, oR N11, oR it_388, oD d112, oV] [] _
    refine XS.aload X388.here hx rfl (hb hby d46_167) rfl rfl ?_
    show own_S p e below T388 m 169 _ [(.ref it_317)] _
    refine st396.trans ?_
    show own_S p e below T396 m 174 _ [(.int 0)] _
    refine XS.ifYes X396.here hx rfl (pc0 := 174) (pc' := 240) rfl (hb hby d46_174) rfl ((if0 _ _).trans (teq (by decide : (0 : Int32) = (0 : Int32))).1) (by decide) (by decide) ?_
    refine XS.goto X396.here hx rfl (pc0 := 240) (pc' := 135) rfl (hb hby d46_240) (by decide) (by decide) ?_
    refine XS.aloadN X396.here hx rfl (hb hby d46_135) rfl rfl ?_
    show own_S p e below T396 m 136 _ [(.ref it_177)] _
    refine st406.trans ?_
    show own_S p e below T406 m 141 _ [(.int 0)] _
    refine XS.ifYes X406.here hx rfl (pc0 := 141) (pc' := 243) rfl (hb hby d46_141) rfl ((if0 _ _).trans (teq (by decide : (0 : Int32) = (0 : Int32))).1) (by decide) (by decide) ?_
    refine XS.aloadN X406.here hx rfl (hb hby d46_243) rfl rfl ?_
    refine XS.aloadN X406.here hx rfl (hb hby d46_244) rfl rfl ?_
    show own_S p e below T406 m 245 _ [(.ref r0), (.ref r0)] _
    refine st409 _ ?_
    show own_S p e below T409 m 248 _ [(.int 4), (.ref r0)] _
    refine st410 _ ?_
    show own_S p e below T410 m 250 _ [(.ref b410), (.ref r0)] _
    refine st415 _ ?_
    show own_S p e below T415 m 253 _ [] _
    refine XS.iconst X415.here hx rfl (hb hby d46_253) ?_
    refine XS.istoreN X415.here hx rfl (hb hby d46_254) rfl (l' := #[oR r0, oR r1, oI 12, oI 0, oR o1, oR it_317, oR N11, oR it_388, oD d112, oV]) rfl ?_
    refine XS.iloadN X415.here hx rfl (hb hby d46_255) rfl ?_
    refine XS.aloadN X415.here hx rfl (hb hby d46_256) rfl rfl ?_
    show own_S p e below T415 m 257 _ [(.ref r0), (.int 0)] _
    refine st419 _ ?_
    show own_S p e below T419 m 260 _ [(.int 4), (.int 0)] _
    refine XS.icmpNo X419.here hx rfl (hb hby d46_260) rfl (tlt (by decide : (0 : Int32) < (4 : Int32))).2.1 ?_
    refine XS.aloadN X419.here hx rfl (hb hby d46_263) rfl rfl ?_
    show own_S p e below T419 m 264 _ [(.ref r0)] _
    refine st420 _ ?_
    show own_S p e below T420 m 267 _ [(.ref b410)] _
    refine XS.iloadN X420.here hx rfl (hb hby d46_267) rfl ?_
    refine XS.aloadN X420.here hx rfl (hb hby d46_268) rfl rfl ?_
    refine XS.iloadN X420.here hx rfl (hb hby d46_269) rfl ?_
    show own_S p e below T420 m 270 _ [(.int 0), (.ref r0), (.int 0), (.ref b410)] _
    refine st424.trans ?_
    show own_S p e below T424 m 273 _ [(.double (FP.dadd (FP.dadd (FP.dadd (0 : UInt64) d000) d001) d002)), (.int 0), (.ref b410)] _
    refine st429 _ ?_
    show own_S p e below T429 m 274 _ [] _
    refine XS.iinc X429.here hx rfl (hb hby d46_274) rfl (l' := #[oR r0, oR r1, oI 12, oI 1, oR o1, oR it_317, oR N11, oR it_388, oD d112, oV]) rfl ?_
    refine XS.goto X429.here hx rfl (pc0 := 277) (pc' := 255) rfl (hb hby d46_277) (by decide) (by decide) ?_
    refine XS.iloadN X429.here hx rfl (hb hby d46_255) rfl ?_
    refine XS.aloadN X429.here hx rfl (hb hby d46_256) rfl rfl ?_
    show own_S p e below T429 m 257 _ [(.ref r0), (.int 1)] _
    refine st433 _ ?_
    show own_S p e below T433 m 260 _ [(.int 4), (.int 1)] _
    refine XS.icmpNo X433.here hx rfl (hb hby d46_260) rfl (tlt (by decide : (1 : Int32) < (4 : Int32))).2.1 ?_
    refine XS.aloadN X433.here hx rfl (hb hby d46_263) rfl rfl ?_
    show own_S p e below T433 m 264 _ [(.ref r0)] _
    refine st435 _ ?_
    show own_S p e below T435 m 267 #[oR r0, oR r1, oI 12, oI 1, oR o1, oR it_317, oR N11, oR it_388, oD d112, oV] [(.ref b410)] _
    refine XS.iloadN X435.here hx rfl (hb hby d46_267) rfl ?_
    refine XS.aloadN X435.here hx rfl (hb hby d46_268) rfl rfl ?_
    refine XS.iloadN X435.here hx rfl (hb hby d46_269) rfl ?_
    show own_S p e below T435 m 270 _ [(.int 1), (.ref r0), (.int 1), (.ref b410)] _
    refine st440.trans ?_
    show own_S p e below T440 m 273 _ [(.double (FP.dadd (FP.dadd (FP.dadd (0 : UInt64) d010) d011) d012)), (.int 1), (.ref b410)] _
    refine st443 _ ?_
    show own_S p e below T443 m 274 _ [] _
    refine XS.iinc X443.here hx rfl (hb hby d46_274) rfl (l' := #[oR r0, oR r1, oI 12, oI 2, oR o1, oR it_317, oR N11, oR it_388, oD d112, oV]) rfl ?_
    refine XS.goto X443.here hx rfl (pc0 := 277) (pc' := 255) rfl (hb hby d46_277) (by decide) (by decide) ?_
    refine XS.iloadN X443.here hx rfl (hb hby d46_255) rfl ?_
    refine XS.aloadN X443.here hx rfl (hb hby d46_256) rfl rfl ?_
    show own_S p e below T443 m 257 _ [(.ref r0), (.int 2)] _
    refine st447 _ ?_
    show own_S p e below T447 m 260 _ [(.int 4), (.int 2)] _
    refine XS.icmpNo X447.here hx rfl (hb hby d46_260) rfl (tlt (by decide : (2 : Int32) < (4 : Int32))).2.1 ?_
    refine XS.aloadN X447.here hx rfl (hb hby d46_263) rfl rfl ?_
    show own_S p e below T447 m 264 _ [(.ref r0)] _
    refine st449 _ ?_
    show own_S p e below T449 m 267 #[oR r0, oR r1, oI 12, oI 2, oR o1, oR it_317, oR N11, oR it_388, oD d112, oV] [(.ref b410)] _
    refine XS.iloadN X449.here hx rfl (hb hby d46_267) rfl ?_
    refine XS.aloadN X449.here hx rfl (hb hby d46_268) rfl rfl ?_
    refine XS.iloadN X449.here hx rfl (hb hby d46_269) rfl ?_
    show own_S p e below T449 m 270 _ [(.int 2), (.ref r0), (.int 2), (.ref b410)] _
    refine st453.trans ?_
    show own_S p e below T453 m 273 _ [(.double (FP.dadd (FP.dadd (FP.dadd (0 : UInt64) d100) d101) d102)), (.int 2), (.ref b410)] _
    refine st456 _ ?_
    show own_S p e below T456 m 274 _ [] _
    refine XS.iinc X456.here hx rfl (hb hby d46_274) rfl (l' := #[oR r0, oR r1, oI 12, oI 3, oR o1, oR it_317, oR N11, oR it_388, oD d112, oV]) rfl ?_
    refine XS.goto X456.here hx rfl (pc0 := 277) (pc' := 255) rfl (hb hby d46_277) (by decide) (by decide) ?_
    refine XS.iloadN X456.here hx rfl (hb hby d46_255) rfl ?_
    refine XS.aloadN X456.here hx rfl (hb hby d46_256) rfl rfl ?_
    show own_S p e below T456 m 257 _ [(.ref r0), (.int 3)] _
    refine st460 _ ?_
    show own_S p e below T460 m 260 _ [(.int 4), (.int 3)] _
    refine XS.icmpNo X460.here hx rfl (hb hby d46_260) rfl (tlt (by decide : (3 : Int32) < (4 : Int32))).2.1 ?_
    refine XS.aloadN X460.here hx rfl (hb hby d46_263) rfl rfl ?_
    show own_S p e below T460 m 264 _ [(.ref r0)] _
    refine st462 _ ?_
    show own_S p e below T462 m 267 #[oR r0, oR r1, oI 12, oI 3, oR o1, oR it_317, oR N11, oR it_388, oD d112, oV] [(.ref b410)] _
    refine XS.iloadN X462.here hx rfl (hb hby d46_267) rfl ?_
    refine XS.aloadN X462.here hx rfl (hb hby d46_268) rfl rfl ?_
    refine XS.iloadN X462.here hx rfl (hb hby d46_269) rfl ?_
    show own_S p e below T462 m 270 _ [(.int 3), (.ref r0), (.int 3), (.ref b410)] _
    refine st466.trans ?_
    show own_S p e below T466 m 273 _ [(.double (FP.dadd (FP.dadd (FP.dadd (0 : UInt64) d110) d111) d112)), (.int 3), (.ref b410)] _
    refine st469 _ ?_
    show own_S p e below T469 m 274 _ [] _
    refine XS.iinc X469.here hx rfl (hb hby d46_274) rfl (l' := #[oR r0, oR r1, oI 12, oI 4, oR o1, oR it_317, oR N11, oR it_388, oD d112, oV]) rfl ?_
    refine XS.goto X469.here hx rfl (pc0 := 277) (pc' := 255) rfl (hb hby d46_277) (by decide) (by decide) ?_
    refine XS.iloadN X469.here hx rfl (hb hby d46_255) rfl ?_
    refine XS.aloadN X469.here hx rfl (hb hby d46_256) rfl rfl ?_
    show own_S p e below T469 m 257 _ [(.ref r0), (.int 4)] _
    refine st473 _ ?_
    show own_S p e below T473 m 260 _ [(.int 4), (.int 4)] _
    refine XS.icmpYes X473.here hx rfl (pc0 := 260) (pc' := 280) rfl (hb hby d46_260) rfl (flt (by decide : ¬ ((4 : Int32) < (4 : Int32)))).2.1 (by decide) (by decide) ?_
    show own_S p e below T473 m 280 _ [] _
    exact X473.returnOut hx Bd.returns (hb hby d46_280) hr
  · show Qm46 Z r0 r1 w0 w1 w2 w3 w4 w5 wn0 wn1 el em o0 o1 L0 L1 N00 N01 N10 N11 A00 A01 A10 A11 x000 x001 x002 x010 x011 x012 x100 x101 x102 x110 x111 x112 kel kA00 kA01 kA10 kA11 d000 d001 d002 d010 d011 d012 d100 d101 d102 d110 d111 d112 h0 n0 _ T473.heap _
    rw [e473]
    exact ⟨b167, k167, rfl, N469, KK471, sz_b167, (Fc465.other W469 (Or.inl (Ne.symm nq425))), (Fc464.other W469 (Or.inl (Ne.symm nq425))), ((Fc452.other W456 nq439).other W469 nq439), (((((((Fc372.keep P388_0).ext E410).wr W415).wr W429).wr W443).wr W456).wr W469)⟩
section OwnIV
open Jvm.FP
def own_val (a b j : Int32) : UInt64 := FP.l2d (a.toInt64 + j.toInt64 * b.toInt64)
theorem own_vnn (a b j : Int32) : NoNaN64 (own_val a b j) := (l2d_fin _).noNaN
theorem own_fi0 {x : UInt64} (h : Core.DFin x) : ¬ (0 : Int32) < (cmpValue (FP.dcmp (x &&& 0x7fffffffffffffff) (9218868437227405311 : UInt64)) .g) := by
  have q : FP.dcmp (x &&& 0x7fffffffffffffff) (9218868437227405311 : UInt64) = some .lt ∨ FP.dcmp (x &&& 0x7fffffffffffffff) (9218868437227405311 : UInt64) = some .eq := (Core.le_max h.notNaN).mpr h
  rcases q with q | q <;> rw [q] <;> decide
theorem own_vfi (a b j : Int32) : ¬ (0 : Int32) < (cmpValue (FP.dcmp (own_val a b j &&& 0x7fffffffffffffff) (9218868437227405311 : UInt64)) .g) := own_fi0 (Core.l2d_fin _)
theorem own_vself (a b j : Int32) : cmpValue (FP.dcmp (own_val a b j) (own_val a b j)) .l = (0 : Int32) := dcmpV_self (own_vnn a b j) .l
/-- j is one of 0 .. 11 -/
abbrev own_j (j : Int32) : Prop := ¬ j < 0 ∧ j < 12
theorem own_vd (a b : Int32) {j : Int32} (h : own_j j) : ∃ i : Int, Core.DInt i (own_val a b j) ∧ i.natAbs ≤ 2 ^ 35 := by
  have ra := rng32 a; have rb := rng32 b
  have j0 : ¬ j.toInt < 0 := fun q => h.1 (Int32.lt_iff_toInt_lt.mpr q)
  have j1 : j.toInt < 12 := Int32.lt_iff_toInt_lt.mp h.2
  have m := own_lmul (x := j.toInt64) (y := b.toInt64) (A := 12) (B := 2 ^ 31) (by rw [Int32.toInt_toInt64]; omega) (by rw [Int32.toInt_toInt64]; omega) (by decide)
  have mb : (j.toInt64 * b.toInt64).toInt.natAbs ≤ 12 * 2 ^ 31 := by rw [m, Int.natAbs_mul]; exact Nat.mul_le_mul (by rw [Int32.toInt_toInt64]; omega) (by rw [Int32.toInt_toInt64]; omega)
  have s := own_ladd (x := a.toInt64) (y := j.toInt64 * b.toInt64) (A := 2 ^ 31) (B := 12 * 2 ^ 31) (by rw [Int32.toInt_toInt64]; omega) mb (by decide)
  have sb : (a.toInt64 + j.toInt64 * b.toInt64).toInt.natAbs ≤ 2 ^ 35 := by rw [s, Int32.toInt_toInt64]; omega
  exact ⟨_, Core.l2d_int (Nat.le_trans sb (by decide)), sb⟩
theorem own_dnn {i : Int} {a : UInt64} (h : Core.DInt i a) : NoNaN64 a := own_at_nn (own_int h)
theorem own_vs1 (a b : Int32) {i : Int32} (h : own_j i) : NoNaN64 (FP.dadd (0 : UInt64) (own_val a b i)) := by
  obtain ⟨x, hx, bx⟩ := own_vd a b h
  exact own_dnn (Core.dadd_int own_D0 hx (by omega))
theorem own_vs2 (a b : Int32) {i j : Int32} (h : own_j i) (h' : own_j j) : NoNaN64 (FP.dadd (FP.dadd (0 : UInt64) (own_val a b i)) (own_val a b j)) := by
  obtain ⟨x, hx, bx⟩ := own_vd a b h
  obtain ⟨y, hy, b_y⟩ := own_vd a b h'
  exact own_dnn (Core.dadd_int (Core.dadd_int own_D0 hx (by omega)) hy (by omega))
theorem own_vs3 (a b : Int32) {i j k : Int32} (h : own_j i) (h' : own_j j) (h2 : own_j k) : NoNaN64 (FP.dadd (FP.dadd (FP.dadd (0 : UInt64) (own_val a b i)) (own_val a b j)) (own_val a b k)) := by
  obtain ⟨x, hx, bx⟩ := own_vd a b h
  obtain ⟨y, hy, b_y⟩ := own_vd a b h'
  obtain ⟨z, hz, bz⟩ := own_vd a b h2
  exact own_dnn (Core.dadd_int (Core.dadd_int (Core.dadd_int own_D0 hx (by omega)) hy (by omega)) hz (by omega))
theorem own_v4 {x v : Int32} (h : v = (x &&& (3 : Int32))) : v = 0 ∨ v = 1 ∨ v = 2 ∨ v = 3 := by
  have q := own_maskI (x := x) (m := 3) (k := 2) (by decide) (by decide)
  obtain ⟨n, hn, e⟩ := own_cases32 (n := 4) q.1 (by omega)
  rw [h, e]
  match n, hn with
  | 0, _ => decide
  | 1, _ => decide
  | 2, _ => decide
  | 3, _ => decide
theorem own_k3 {x k : Int32} (h : k = (((x.toUInt32 >>> ((2 : Int32) &&& 31).toUInt32).toInt32) % (3 : Int32))) : k = 0 ∨ k = 1 ∨ k = 2 := by
  have c := c_iushr x 2 2 (by decide) (by decide)
  have r := own_irem h (M := 3) rfl (by decide)
  have h0 : 0 ≤ ((x.toUInt32 >>> ((2 : Int32) &&& 31).toUInt32).toInt32).toInt := by rw [c]; omega
  obtain ⟨n, hn, e⟩ := own_cases32 (n := 3) (r.2.2 h0) (by omega)
  rw [e]
  match n, hn with
  | 0, _ => decide
  | 1, _ => decide
  | 2, _ => decide
def own_stf (v : Int32) : Int32 := if v = 0 then 0 else if v = 1 then 3 else if v = 2 then 6 else 9
theorem own_st0 {v st : Int32} (h : st = own_stf v) (h0 : v = 0) : st = 0 := by rw [h, own_stf, if_pos h0]
theorem own_st1 {v st : Int32} (h : st = own_stf v) (h0 : ¬ v = 0) (h1 : v = 1) : st = 3 := by rw [h, own_stf, if_neg h0, if_pos h1]
theorem own_st2 {v st : Int32} (h : st = own_stf v) (h0 : ¬ v = 0) (h1 : ¬ v = 1) (h2 : v = 2) : st = 6 := by rw [h, own_stf, if_neg h0, if_neg h1, if_pos h2]
theorem own_st3 {v st : Int32} (h : st = own_stf v) (h0 : ¬ v = 0) (h1 : ¬ v = 1) (h2 : ¬ v = 2) : st = 9 := by rw [h, own_stf, if_neg h0, if_neg h1, if_neg h2]
theorem own_vin {v k : Int32} (hv : v = 0 ∨ v = 1 ∨ v = 2 ∨ v = 3) (hk : k = 0 ∨ k = 1 ∨ k = 2) : ¬ ((v * (3 : Int32)) + k) < (0 : Int32) ∧ ((v * (3 : Int32)) + k) < (12 : Int32) := by
  rcases hv with rfl | rfl | rfl | rfl <;> rcases hk with rfl | rfl | rfl <;> decide
theorem own_vg {v k st a b : Int32} (hv : v = 0 ∨ v = 1 ∨ v = 2 ∨ v = 3) (hk : k = 0 ∨ k = 1 ∨ k = 2) (hs : st = own_stf v) {dv : Value} : ([.double (own_val a b 0), .double (own_val a b (0 + 1)), .double (own_val a b (0 + 2)), .double (own_val a b 3), .double (own_val a b (3 + 1)), .double (own_val a b (3 + 2)), .double (own_val a b 6), .double (own_val a b (6 + 1)), .double (own_val a b (6 + 2)), .double (own_val a b 9), .double (own_val a b (9 + 1)), .double (own_val a b (9 + 2))] : List Value).getD ((v * (3 : Int32)) + k).toNatClampNeg dv = .double (own_val a b (st + k)) := by
  subst hs
  rcases hv with rfl | rfl | rfl | rfl <;> rcases hk with rfl | rfl | rfl <;> rfl
end OwnIV
theorem d6_0 : decode k6 0 = .ok (.iload_n 0, 1) := by decide +kernel
theorem d6_1 : decode k6 1 = .ok (.i2l, 1) := by decide +kernel
theorem d6_2 : decode k6 2 = .ok (.iload_n 2, 1) := by decide +kernel
theorem d6_3 : decode k6 3 = .ok (.i2l, 1) := by decide +kernel
theorem d6_4 : decode k6 4 = .ok (.iload_n 1, 1) := by decide +kernel
theorem d6_5 : decode k6 5 = .ok (.i2l, 1) := by decide +kernel
theorem d6_6 : decode k6 6 = .ok (.lmul, 1) := by decide +kernel
theorem d6_7 : decode k6 7 = .ok (.ladd, 1) := by decide +kernel
theorem d6_8 : decode k6 8 = .ok (.l2d, 1) := by decide +kernel
theorem d6_9 : decode k6 9 = .ok (.dreturn, 1) := by decide +kernel
theorem pn19 : plainName "com/example/matchwright/matchwright/core/InstanceVectorsScorePinLaw" = true := by first | (simp [plainName, overriddenIn]; done) | decide +kernel
theorem efm6 (m : MethodId) (p0 : Int32) (p1 : Int32) (p2 : Int32) : entryFrame m #[(.int p0), (.int p1), (.int p2)] 3 = mkF m 0 #[oI p0, oI p1, oI p2] [] := by first | (simp [entryFrame, mkF, argsToLocals, Value.category]; done) | rfl
def Qm6 (Z : State) (p0 : Int32) (p1 : Int32) (p2 : Int32) (h0 : Heap) (n0 : Nat) (v : Option Value) (h : Heap) (L : List Loc) : Prop := v = some (.double (own_val p0 p1 p2)) ∧ Fr n0 L ∧ (h = h0)
set_option maxRecDepth 65536 in
set_option maxHeartbeats 40000000 in
theorem rmm6 (l : Launch) (Z : State) (a0 : Array Value) (hw : own_HW Z a0) (ws : List Jvm.Cond) (p0 : Int32) (p1 : Int32) (p2 : Int32) (h0 : Heap) (n0 : Nat) (Z0 : n0 ≤ h0.size)  :
    MetFree l (⟨"com/example/matchwright/matchwright/core/InstanceVectorsScorePinLaw", "val", "(III)D"⟩ : MethodName) (head1 (Jvm.Cond.code (⟨"com/example/matchwright/matchwright/core/InstanceVectorsScorePinLaw", "val", "(III)D"⟩ : MethodName) method_2_code 3 (some .double) :: ws) ({ frames := 0, cells := 0, slots := 0, locals := 0 } : Room)) (fun a U => a = #[(.int p0), (.int p1), (.int p2)] ∧ Z.Warmed39 U.vm ∧ U.heap = h0) (fun _ _ _ _ _ => True) (fun _ U o U' => ∃ v L, o = .returned v ∧ Qm6 Z p0 p1 p2 h0 n0 v U'.heap L ∧ FrameEnd U o U' L ({ frames := 0, cells := 0, slots := 0, locals := 0 } : Room).cells ({ frames := 0, cells := 0, slots := 0, locals := 0 } : Room).slots) := by
  refine MetFree.of_bodySF (plainFor_of_name pn19) hisR ?_
  intro p e s m args below meth c s₁ Bd hml0 hP hK
  obtain ⟨rfl, hZ, hh⟩ := hP
  have hx := Bd.exec
  have hby := Bd.bytes
  have hml : c.maxLocals = 3 := hml0
  have hown : s.vm.findClass "com/example/matchwright/matchwright/core/InstanceVectorsScorePinLaw" = some m.cls := findClass_of_methodNamed Bd.named
  have hnm := (name_of_methodNamed Bd.named Bd.method).1
  have X0 : Stand p l e ({ frames := 0, cells := 0, slots := 0, locals := 0 } : Room) s m #[(.int p0), (.int p1), (.int p2)] below meth c s₁ [] 0 0 := Stand.of_body Bd
  have e0 : s₁.heap = h0 := by rw [← hh, Bd.state]; rfl
  have N0 := Fr.nil n0
  have pre0 : ∀ t, Steps p.tables e below (s₁.setTop (mkF m 0 #[oI p0, oI p1, oI p2] [])) t → Steps p.tables e below (s₁.setTop (entryFrame m #[(.int p0), (.int p1), (.int p2)] 3)) t := fun t k => castTop (efm6 m p0 p1 p2) k
  obtain ⟨fs, hr, hrun, hended, hW, hsame⟩ := X0.leave (v := some (.double (FP.l2d ((p0.toInt64) + ((p2.toInt64) * (p1.toInt64)))))) (fun h => by rw [Bd.returns] at h; cases h)
  refine ⟨_, _, pre0 _ ?_, hrun, hended, _, _, rfl, ?_, ⟨_, rfl⟩, hW, hsame.mono (by decide) (by decide)⟩
  · show own_S p e below s₁ m 0 #[oI p0, oI p1, oI p2] [] _
    refine XS.iloadN X0.here hx rfl (hb hby d6_0) rfl ?_
    show own_S p e below s₁ m 1 _ [(.int p0)] _
    refine XS.i2l X0.here hx rfl (hb hby d6_1) rfl ?_
    show own_S p e below s₁ m 2 _ [(.long (p0.toInt64))] _
    refine XS.iloadN X0.here hx rfl (hb hby d6_2) rfl ?_
    show own_S p e below s₁ m 3 _ [(.int p2), (.long (p0.toInt64))] _
    refine XS.i2l X0.here hx rfl (hb hby d6_3) rfl ?_
    show own_S p e below s₁ m 4 _ [(.long (p2.toInt64)), (.long (p0.toInt64))] _
    refine XS.iloadN X0.here hx rfl (hb hby d6_4) rfl ?_
    show own_S p e below s₁ m 5 _ [(.int p1), (.long (p2.toInt64)), (.long (p0.toInt64))] _
    refine XS.i2l X0.here hx rfl (hb hby d6_5) rfl ?_
    show own_S p e below s₁ m 6 _ [(.long (p1.toInt64)), (.long (p2.toInt64)), (.long (p0.toInt64))] _
    refine XS.lmul X0.here hx rfl (hb hby d6_6) rfl ?_
    show own_S p e below s₁ m 7 #[oI p0, oI p1, oI p2] [(.long ((p2.toInt64) * (p1.toInt64))), (.long (p0.toInt64))] _
    refine XS.ladd X0.here hx rfl (hb hby d6_7) rfl ?_
    show own_S p e below s₁ m 8 _ [(.long ((p0.toInt64) + ((p2.toInt64) * (p1.toInt64))))] _
    refine XS.l2dS X0.here hx rfl (v := (FP.l2d ((p0.toInt64) + ((p2.toInt64) * (p1.toInt64))))) (hb hby d6_8) rfl rfl ?_
    show own_S p e below s₁ m 9 _ [(.double (FP.l2d ((p0.toInt64) + ((p2.toInt64) * (p1.toInt64)))))] _
    exact retOut X0 hx Bd.returns rfl (Or.inr (Or.inr (Or.inl ⟨rfl, rfl, _, rfl⟩))) (hb hby d6_9) hr
  · show Qm6 Z p0 p1 p2 h0 n0 _ s₁.heap _
    rw [e0]
    exact ⟨rfl, N0, rfl⟩
theorem pd30 : parseMethodDescriptor "(III)D" = some ⟨[.int, .int, .int], some .double⟩ := by decide +kernel
theorem pd31 : parseMethodDescriptor "(D)Ljava/lang/Double;" = some ⟨[.double], some (.object kDB)⟩ := by decide +kernel
theorem d5_0 : decode k5 0 = .ok (.new 7, 3) := by decide +kernel
theorem d5_3 : decode k5 3 = .ok (.dup, 1) := by decide +kernel
theorem d5_4 : decode k5 4 = .ok (.invokespecial 9, 3) := by decide +kernel
theorem d5_7 : decode k5 7 = .ok (.astore_n 3, 1) := by decide +kernel
theorem d5_8 : decode k5 8 = .ok (.aload_n 3, 1) := by decide +kernel
theorem d5_9 : decode k5 9 = .ok (.iload_n 0, 1) := by decide +kernel
theorem d5_10 : decode k5 10 = .ok (.iload_n 1, 1) := by decide +kernel
theorem d5_11 : decode k5 11 = .ok (.iload_n 2, 1) := by decide +kernel
theorem d5_12 : decode k5 12 = .ok (.invokestatic 10, 3) := by decide +kernel
theorem d5_15 : decode k5 15 = .ok (.invokestatic 16, 3) := by decide +kernel
theorem d5_18 : decode k5 18 = .ok (.invokeinterface 22 2, 5) := by decide +kernel
theorem d5_23 : decode k5 23 = .ok (.pop, 1) := by decide +kernel
theorem d5_24 : decode k5 24 = .ok (.aload_n 3, 1) := by decide +kernel
theorem d5_25 : decode k5 25 = .ok (.iload_n 0, 1) := by decide +kernel
theorem d5_26 : decode k5 26 = .ok (.iload_n 1, 1) := by decide +kernel
theorem d5_27 : decode k5 27 = .ok (.iload_n 2, 1) := by decide +kernel
theorem d5_28 : decode k5 28 = .ok (.iconst 1, 1) := by decide +kernel
theorem d5_29 : decode k5 29 = .ok (.iadd, 1) := by decide +kernel
theorem d5_30 : decode k5 30 = .ok (.invokestatic 10, 3) := by decide +kernel
theorem d5_33 : decode k5 33 = .ok (.invokestatic 16, 3) := by decide +kernel
theorem d5_36 : decode k5 36 = .ok (.invokeinterface 22 2, 5) := by decide +kernel
theorem d5_41 : decode k5 41 = .ok (.pop, 1) := by decide +kernel
theorem d5_42 : decode k5 42 = .ok (.aload_n 3, 1) := by decide +kernel
theorem d5_43 : decode k5 43 = .ok (.iload_n 0, 1) := by decide +kernel
theorem d5_44 : decode k5 44 = .ok (.iload_n 1, 1) := by decide +kernel
theorem d5_45 : decode k5 45 = .ok (.iload_n 2, 1) := by decide +kernel
theorem d5_46 : decode k5 46 = .ok (.iconst 2, 1) := by decide +kernel
theorem d5_47 : decode k5 47 = .ok (.iadd, 1) := by decide +kernel
theorem d5_48 : decode k5 48 = .ok (.invokestatic 10, 3) := by decide +kernel
theorem d5_51 : decode k5 51 = .ok (.invokestatic 16, 3) := by decide +kernel
theorem d5_54 : decode k5 54 = .ok (.invokeinterface 22 2, 5) := by decide +kernel
theorem d5_59 : decode k5 59 = .ok (.pop, 1) := by decide +kernel
theorem d5_60 : decode k5 60 = .ok (.aload_n 3, 1) := by decide +kernel
theorem d5_61 : decode k5 61 = .ok (.areturn, 1) := by decide +kernel
theorem efm5 (m : MethodId) (p0 : Int32) (p1 : Int32) (p2 : Int32) : entryFrame m #[(.int p0), (.int p1), (.int p2)] 4 = mkF m 0 #[oI p0, oI p1, oI p2, oU] [] := by first | (simp [entryFrame, mkF, argsToLocals, Value.category]; done) | rfl
def Qm5 (Z : State) (p0 : Int32) (p1 : Int32) (p2 : Int32) (de : Addr) (kde : ClassId) (h0 : Heap) (n0 : Nat) (v : Option Value) (h : Heap) (L : List Loc) : Prop := ∃ lo : Addr, ∃ le : Addr, ∃ x0 : Addr, ∃ x1 : Addr, ∃ x2 : Addr, ∃ kle : ClassId, v = some (.ref lo) ∧ Fr n0 L ∧ (Keep h0 h []) ∧ (h0.size ≤ lo) ∧ (h0.size ≤ le) ∧ (h0.size ≤ x0) ∧ (h0.size ≤ x1) ∧ (h0.size ≤ x2) ∧ (Exa Z h lo kAL) ∧ (Fld Z h lo kAL "elementData" kOA (.ref le)) ∧ (Fld Z h lo kAL "size" "I" (.int 3)) ∧ (Fld Z h lo kABL "modCount" "I" (.int 3)) ∧ (Arv Z h le kle (.object kOB) (10 : Int32) [(.ref x0), (.ref x1), (.ref x2), .null] .null) ∧ (Exa Z h le kOA) ∧ (Ovr Z kle kOB) ∧ (Exa Z h x0 kDB) ∧ (Fld Z h x0 kDB "value" "D" (.double (own_val p0 p1 p2))) ∧ (Exa Z h x1 kDB) ∧ (Fld Z h x1 kDB "value" "D" (.double (own_val p0 p1 (p2 + (1 : Int32))))) ∧ (Exa Z h x2 kDB) ∧ (Fld Z h x2 kDB "value" "D" (.double (own_val p0 p1 (p2 + (2 : Int32)))))
set_option maxRecDepth 65536 in
set_option maxHeartbeats 40000000 in
theorem rmm5 (l : Launch) (Z : State) (a0 : Array Value) (hw : own_HW Z a0) (ws : List Jvm.Cond) (p0 : Int32) (p1 : Int32) (p2 : Int32) (de : Addr) (kde : ClassId) (h0 : Heap) (n0 : Nat) (Z0 : n0 ≤ h0.size) (hOld : Old Z n0 h0) (S_DEFAULTCAPACITY_EMPTY_ELEMENTDATA : Sta Z Z.heap kAL "DEFAULTCAPACITY_EMPTY_ELEMENTDATA" kOA (.ref de)) (V_de : Arv Z Z.heap de kde (.object kOB) (0 : Int32) [] .null) (E_de : Exa Z Z.heap de kOA) :
    MetFree l (⟨"com/example/matchwright/matchwright/core/InstanceVectorsScorePinLaw", "vec", "(III)Ljava/util/List;"⟩ : MethodName) (head1 (Jvm.Cond.code (⟨"com/example/matchwright/matchwright/core/InstanceVectorsScorePinLaw", "vec", "(III)Ljava/util/List;"⟩ : MethodName) method_3_code 4 (some (.object "java/util/List")) :: ws) ({ frames := 5, cells := 5, slots := 16, locals := 69 } : Room)) (fun a U => a = #[(.int p0), (.int p1), (.int p2)] ∧ Z.Warmed39 U.vm ∧ U.heap = h0) (fun _ _ _ _ _ => True) (fun _ U o U' => ∃ v L, o = .returned v ∧ Qm5 Z p0 p1 p2 de kde h0 n0 v U'.heap L ∧ FrameEnd U o U' L ({ frames := 5, cells := 5, slots := 16, locals := 69 } : Room).cells ({ frames := 5, cells := 5, slots := 16, locals := 69 } : Room).slots) := by
  refine MetFree.of_bodySF (plainFor_of_name pn19) hisR ?_
  intro p e s m args below meth c s₁ Bd hml0 hP hK
  obtain ⟨rfl, hZ, hh⟩ := hP
  have hx := Bd.exec
  have hby := Bd.bytes
  have hml : c.maxLocals = 4 := hml0
  have hown : s.vm.findClass "com/example/matchwright/matchwright/core/InstanceVectorsScorePinLaw" = some m.cls := findClass_of_methodNamed Bd.named
  have hnm := (name_of_methodNamed Bd.named Bd.method).1
  have X0 : Stand p l e ({ frames := 5, cells := 5, slots := 16, locals := 69 } : Room) s m #[(.int p0), (.int p1), (.int p2)] below meth c s₁ [] 0 0 := Stand.of_body Bd
  have e0 : s₁.heap = h0 := by rw [← hh, Bd.state]; rfl
  have N0 := Fr.nil n0
  have pre0 : ∀ t, Steps p.tables e below (s₁.setTop (mkF m 0 #[oI p0, oI p1, oI p2, oU] [])) t → Steps p.tables e below (s₁.setTop (entryFrame m #[(.int p0), (.int p1), (.int p2)] 4)) t := fun t k => castTop (efm5 m p0 p1 p2) k
  obtain ⟨T101, h101, X101, e101, E101, A101, D101, -, st101⟩ := newO X0 hx hZ hown (own_w hw 0 rfl) (own_w hw 1 rfl) (own_w hw 2 rfl) e0 (g := (mkF m 0 #[oI p0, oI p1, oI p2, oU] [])) rfl (hb hby d5_0) (by decide) (by decide)
  obtain ⟨b101, g101⟩ : ∃ z, z = h0.size := ⟨_, rfl⟩
  rw [← g101] at A101 D101 st101
  have g_b101 : n0 ≤ b101 := Nat.le_trans Z0 (Nat.le_of_eq g101.symm)
  have sz_b101 : h0.size ≤ b101 := Nat.le_trans (Keep.refl h0 []).1 (Nat.le_of_eq g101.symm)
  have ZZ102 : n0 ≤ h101.size := Nat.le_trans Z0 E101.1
  have KK103 : Keep h0 h101 [] := (Keep.refl h0 []).ext E101
  have F_modCount_b101 : Fld Z h101 b101 kABL "modCount" "I" (.int 0) := D101 (Or.inl (own_w hw 22 rfl)) (ty := .int) (by decide)
  have F_elementData_b101 : Fld Z h101 b101 kAL "elementData" kOA .null := D101 (Or.inl (own_w hw 25 rfl)) (ty := (.array (.object kOB))) (by decide)
  have F_size_b101 : Fld Z h101 b101 kAL "size" "I" (.int 0) := D101 (Or.inl (own_w hw 64 rfl)) (ty := .int) (by decide)
  obtain ⟨_, T104, L104, X104, hQ104, st104⟩ := own_cC X101 hx hZ hw hown (b := b101) (W := 1) (rmm1 l Z a0 hw [] b101 .null (.int 0) (.int 0) de h101 n0 ZZ102 A101 g_b101 F_elementData_b101 F_size_b101 F_modCount_b101 (hOld.ext E101) S_DEFAULTCAPACITY_EMPTY_ELEMENTDATA) (by decide) (by decide) (by decide) rfl 3 rfl 4 rfl 5 rfl 2 rfl e101 (g := (mkF m 4 #[oI p0, oI p1, oI p2, oU] [(.ref b101), (.ref b101)])) rfl (by rw [hml]; rfl) (argsL := []) (rest := [(.ref b101)]) (lenOf pd0 rfl) rfl (Nat.le_of_eq rfl) (hb hby d5_4) rfl (cN := 1) rfl (by decide) (sN := 3) rfl (by decide)
  obtain ⟨rfl, Nq104, P104_0, P104_1, P104_2, P104_3⟩ := hQ104
  have N104 := Fr.app N0 Nq104
  have ZZ105 : n0 ≤ T104.heap.size := Nat.le_trans ZZ102 P104_0.1
  have KK106 : Keep h0 T104.heap [] := Keep.trans KK103 P104_0 (allS (Or.inr sz_b101) all0)
  obtain ⟨_, T107, L107, X107, hQ107, st107⟩ := own_cS X104 hx hZ hw hown (W := 1) (rmm6 l Z a0 hw [] p0 p1 p2 T104.heap n0 ZZ105 ) (by decide) (by decide) (by decide) 30 rfl 31 rfl 28 rfl 32 rfl rfl (g := (mkF m 12 #[oI p0, oI p1, oI p2, oR b101] [(.int p2), (.int p1), (.int p0), (.ref b101)])) rfl (by rw [hml]; rfl) (argsL := [(.int p0), (.int p1), (.int p2)]) (rest := [(.ref b101)]) (lenOf pd30 rfl) rfl (Nat.le_of_eq rfl) (hb hby d5_12) rfl (cN := 1) rfl (by decide) (sN := 3) rfl (by decide)
  obtain ⟨rfl, Nq107, P107_0⟩ := hQ107
  have N107 := Fr.app N104 Nq107
  obtain ⟨_, T108, L108, X108, hQ108, st108⟩ := own_cS X107 hx hZ hw hown (W := 1) (rmm7 l Z a0 hw [] (own_val p0 p1 p2) T104.heap n0 ZZ105 ) (by decide) (by decide) (by decide) 33 rfl 34 rfl 35 rfl 36 rfl P107_0 (g := (mkF m 15 #[oI p0, oI p1, oI p2, oR b101] [(.double (own_val p0 p1 p2)), (.ref b101)])) rfl (by rw [hml]; rfl) (argsL := [(.double (own_val p0 p1 p2))]) (rest := [(.ref b101)]) (lenOf pd31 rfl) rfl (Nat.le_of_eq rfl) (hb hby d5_15) rfl (cN := 2) rfl (by decide) (sN := 4) rfl (by decide)
  obtain ⟨x_108, rfl, Nq108, P108_0, P108_1, P108_2, P108_3⟩ := hQ108
  have N108 := Fr.app N107 Nq108
  have g_x_108 : n0 ≤ x_108 := Nat.le_trans ZZ105 P108_1
  have sz_x_108 : h0.size ≤ x_108 := Nat.le_trans KK106.1 P108_1
  have ZZ109 : n0 ≤ T108.heap.size := Nat.le_trans ZZ105 P108_0.1
  have KK110 : Keep h0 T108.heap [] := Keep.trans KK106 P108_0 all0
  have Fc111 := ((A101.keep P104_0).keep P108_0)
  have Fc112 := (P104_1.keep P108_0 nin0)
  have Fc113 := (P104_2.keep P108_0 nin0)
  have Fc114 := (P104_3.keep P108_0 nin0)
  have Ol115 := (((hOld.ext E101).keep P104_0 (allS g_b101 all0)).keep P108_0 all0)
  obtain ⟨_, T116, L116, X116, hQ116, st116⟩ := own_cI X108 hx hZ hw hown (b := b101) (W := 0) (rm_a1g l Z a0 hw [] b101 x_108 (0 : Int32) de kde T108.heap n0 ZZ109 Fc111 g_b101 Fc112 Fc113 Fc114 Ol115 S_DEFAULTCAPACITY_EMPTY_ELEMENTDATA V_de E_de (Ins.of_exa P108_2 (own_w hw 86 rfl))) (by decide) (by decide) (by decide) 52 rfl 53 rfl 54 rfl 55 rfl 56 rfl 57 rfl 58 rfl 59 rfl 60 rfl 2 rfl rfl Fc111 (g := (mkF m 18 #[oI p0, oI p1, oI p2, oR b101] [(.ref x_108), (.ref b101)])) rfl (by rw [hml]; rfl) (argsL := [(.ref x_108)]) (rest := []) (lenOf pd25 rfl) rfl (Nat.le_of_eq rfl) (hb hby d5_18) rfl (cN := 3) rfl (by decide) (sN := 14) rfl (by decide)
  obtain ⟨el_116, kel_116, rfl, Nq116, P116_0, P116_1, P116_2, P116_3, P116_4, P116_5, P116_6, P116_7⟩ := hQ116
  have N116 := Fr.app N108 Nq116
  have g_el_116 : n0 ≤ el_116 := Nat.le_trans ZZ109 P116_1
  have sz_el_116 : h0.size ≤ el_116 := Nat.le_trans KK110.1 P116_1
  have ZZ117 : n0 ≤ T116.heap.size := Nat.le_trans ZZ109 P116_0.1
  have KK118 : Keep h0 T116.heap [] := Keep.trans KK110 P116_0 (allS (Or.inr sz_b101) all0)
  have Fr119 : Fld Z T116.heap b101 kABL "modCount" "I" (.int 1) := (own_fi (by decide) P116_4)
  obtain ⟨_, T120, L120, X120, hQ120, st120⟩ := own_cS X116 hx hZ hw hown (W := 1) (rmm6 l Z a0 hw [] p0 p1 (p2 + (1 : Int32)) T116.heap n0 ZZ117 ) (by decide) (by decide) (by decide) 30 rfl 31 rfl 28 rfl 32 rfl rfl (g := (mkF m 30 #[oI p0, oI p1, oI p2, oR b101] [(.int (p2 + (1 : Int32))), (.int p1), (.int p0), (.ref b101)])) rfl (by rw [hml]; rfl) (argsL := [(.int p0), (.int p1), (.int (p2 + (1 : Int32)))]) (rest := [(.ref b101)]) (lenOf pd30 rfl) rfl (Nat.le_of_eq rfl) (hb hby d5_30) rfl (cN := 3) rfl (by decide) (sN := 14) rfl (by decide)
  obtain ⟨rfl, Nq120, P120_0⟩ := hQ120
  have N120 := Fr.app N116 Nq120
  obtain ⟨_, T121, L121, X121, hQ121, st121⟩ := own_cS X120 hx hZ hw hown (W := 1) (rmm7 l Z a0 hw [] (own_val p0 p1 (p2 + (1 : Int32))) T116.heap n0 ZZ117 ) (by decide) (by decide) (by decide) 33 rfl 34 rfl 35 rfl 36 rfl P120_0 (g := (mkF m 33 #[oI p0, oI p1, oI p2, oR b101] [(.double (own_val p0 p1 (p2 + (1 : Int32)))), (.ref b101)])) rfl (by rw [hml]; rfl) (argsL := [(.double (own_val p0 p1 (p2 + (1 : Int32))))]) (rest := [(.ref b101)]) (lenOf pd31 rfl) rfl (Nat.le_of_eq rfl) (hb hby d5_33) rfl (cN := 4) rfl (by decide) (sN := 15) rfl (by decide)
  obtain ⟨x_121, rfl, Nq121, P121_0, P121_1, P121_2, P121_3⟩ := hQ121
  have N121 := Fr.app N120 Nq121
  have g_x_121 : n0 ≤ x_121 := Nat.le_trans ZZ117 P121_1
  have sz_x_121 : h0.size ≤ x_121 := Nat.le_trans KK118.1 P121_1
  have ZZ122 : n0 ≤ T121.heap.size := Nat.le_trans ZZ117 P121_0.1
  have KK123 : Keep h0 T121.heap [] := Keep.trans KK118 P121_0 all0
  have Fc124 := ((Fc111.keep P116_0).keep P121_0)
  have Fc125 := (P116_2.keep P121_0 nin0)
  have Fc126 := (P116_3.keep P121_0 nin0)
  have Fc127 := (P116_5.keep P121_0 nin0)
  obtain ⟨_, T128, L128, X128, hQ128, st128⟩ := own_cI X121 hx hZ hw hown (b := b101) (W := 0) (rm_a1n l Z a0 hw [] b101 x_121 (1 : Int32) el_116 kel_116 (1 : Int32) (10 : Int32) 1 [(.ref x_108), .null, .null, .null] T121.heap n0 ZZ122 Fc124 g_b101 g_el_116 Fc125 Fc126 (Fr119.keep P121_0 nin0) Fc127 (P116_6.keep P121_0) P116_7 (Ins.of_exa P121_2 (own_w hw 86 rfl)) (by decide) (⟨by decide, by decide⟩) (by decide) (Nat.le_of_ble_eq_true rfl)) (by decide) (by decide) (by decide) 52 rfl 53 rfl 54 rfl 55 rfl 56 rfl 57 rfl 58 rfl 59 rfl 60 rfl 2 rfl rfl Fc124 (g := (mkF m 36 #[oI p0, oI p1, oI p2, oR b101] [(.ref x_121), (.ref b101)])) rfl (by rw [hml]; rfl) (argsL := [(.ref x_121)]) (rest := []) (lenOf pd25 rfl) rfl (Nat.le_of_eq rfl) (hb hby d5_36) rfl (cN := 4) rfl (by decide) (sN := 15) rfl (by decide)
  obtain ⟨rfl, Nq128, P128_0, P128_1, P128_2, P128_3, P128_4⟩ := hQ128
  have N128 := Fr.app N121 Nq128
  have ZZ129 : n0 ≤ T128.heap.size := Nat.le_trans ZZ122 P128_0.1
  have KK130 : Keep h0 T128.heap [] := Keep.trans KK123 P128_0 (allS (Or.inr sz_b101) (allS (Or.inr sz_el_116) all0))
  have Vr131 : Arv Z T128.heap el_116 kel_116 (.object kOB) (10 : Int32) [(.ref x_108), (.ref x_121), .null, .null] .null := P128_4
  have Fr132 : Fld Z T128.heap b101 kAL "size" "I" (.int 2) := (own_fi (by decide) P128_2)
  have Fr133 : Fld Z T128.heap b101 kABL "modCount" "I" (.int 2) := (own_fi (by decide) P128_3)
  obtain ⟨_, T134, L134, X134, hQ134, st134⟩ := own_cS X128 hx hZ hw hown (W := 1) (rmm6 l Z a0 hw [] p0 p1 (p2 + (2 : Int32)) T128.heap n0 ZZ129 ) (by decide) (by decide) (by decide) 30 rfl 31 rfl 28 rfl 32 rfl rfl (g := (mkF m 48 #[oI p0, oI p1, oI p2, oR b101] [(.int (p2 + (2 : Int32))), (.int p1), (.int p0), (.ref b101)])) rfl (by rw [hml]; rfl) (argsL := [(.int p0), (.int p1), (.int (p2 + (2 : Int32)))]) (rest := [(.ref b101)]) (lenOf pd30 rfl) rfl (Nat.le_of_eq rfl) (hb hby d5_48) rfl (cN := 4) rfl (by decide) (sN := 15) rfl (by decide)
  obtain ⟨rfl, Nq134, P134_0⟩ := hQ134
  have N134 := Fr.app N128 Nq134
  obtain ⟨_, T135, L135, X135, hQ135, st135⟩ := own_cS X134 hx hZ hw hown (W := 1) (rmm7 l Z a0 hw [] (own_val p0 p1 (p2 + (2 : Int32))) T128.heap n0 ZZ129 ) (by decide) (by decide) (by decide) 33 rfl 34 rfl 35 rfl 36 rfl P134_0 (g := (mkF m 51 #[oI p0, oI p1, oI p2, oR b101] [(.double (own_val p0 p1 (p2 + (2 : Int32)))), (.ref b101)])) rfl (by rw [hml]; rfl) (argsL := [(.double (own_val p0 p1 (p2 + (2 : Int32))))]) (rest := [(.ref b101)]) (lenOf pd31 rfl) rfl (Nat.le_of_eq rfl) (hb hby d5_51) rfl (cN := 5) rfl (by decide) (sN := 16) rfl (by decide)
  obtain ⟨x_135, rfl, Nq135, P135_0, P135_1, P135_2, P135_3⟩ := hQ135
  have N135 := Fr.app N134 Nq135
  have g_x_135 : n0 ≤ x_135 := Nat.le_trans ZZ129 P135_1
  have sz_x_135 : h0.size ≤ x_135 := Nat.le_trans KK130.1 P135_1
  have ZZ136 : n0 ≤ T135.heap.size := Nat.le_trans ZZ129 P135_0.1
  have KK137 : Keep h0 T135.heap [] := Keep.trans KK130 P135_0 all0
  have Fc138 := ((Fc124.keep P128_0).keep P135_0)
  have Fc139 := (P128_1.keep P135_0 nin0)
  have Fc140 := (((P116_6.keep P121_0).keep P128_0).keep P135_0)
  obtain ⟨_, T141, L141, X141, hQ141, st141⟩ := own_cI X135 hx hZ hw hown (b := b101) (W := 0) (rm_a1n l Z a0 hw [] b101 x_135 (2 : Int32) el_116 kel_116 (2 : Int32) (10 : Int32) 2 [(.ref x_108), (.ref x_121), .null, .null] T135.heap n0 ZZ136 Fc138 g_b101 g_el_116 Fc139 (Fr132.keep P135_0 nin0) (Fr133.keep P135_0 nin0) (Vr131.keep P135_0 nin0) Fc140 P116_7 (Ins.of_exa P135_2 (own_w hw 86 rfl)) (by decide) (⟨by decide, by decide⟩) (by decide) (Nat.le_of_ble_eq_true rfl)) (by decide) (by decide) (by decide) 52 rfl 53 rfl 54 rfl 55 rfl 56 rfl 57 rfl 58 rfl 59 rfl 60 rfl 2 rfl rfl Fc138 (g := (mkF m 54 #[oI p0, oI p1, oI p2, oR b101] [(.ref x_135), (.ref b101)])) rfl (by rw [hml]; rfl) (argsL := [(.ref x_135)]) (rest := []) (lenOf pd25 rfl) rfl (Nat.le_of_eq rfl) (hb hby d5_54) rfl (cN := 5) rfl (by decide) (sN := 16) rfl (by decide)
  obtain ⟨rfl, Nq141, P141_0, P141_1, P141_2, P141_3, P141_4⟩ := hQ141
  have N141 := Fr.app N135 Nq141
  have ZZ142 : n0 ≤ T141.heap.size := Nat.le_trans ZZ136 P141_0.1
  have KK143 : Keep h0 T141.heap [] := Keep.trans KK137 P141_0 (allS (Or.inr sz_b101) (allS (Or.inr sz_el_116) all0))
  have Vr144 : Arv Z T141.heap el_116 kel_116 (.object kOB) (10 : Int32) [(.ref x_108), (.ref x_121), (.ref x_135), .null] .null := P141_4
  have Fr145 : Fld Z T141.heap b101 kAL "size" "I" (.int 3) := (own_fi (by decide) P141_2)
  have Fr146 : Fld Z T141.heap b101 kABL "modCount" "I" (.int 3) := (own_fi (by decide) P141_3)
  have nq147 : b101 ≠ x_108 := (Nat.ne_of_lt (Nat.lt_of_lt_of_le P104_1.lt P108_1))
  have nq148 : x_108 ≠ el_116 := (Nat.ne_of_lt (Nat.lt_of_lt_of_le P108_2.lt P116_1))
  have nq149 : b101 ≠ x_121 := (Nat.ne_of_lt (Nat.lt_of_lt_of_le P116_4.lt P121_1))
  have nq150 : el_116 ≠ x_121 := (Nat.ne_of_lt (Nat.lt_of_lt_of_le P116_6.lt P121_1))
  have nq151 : b101 ≠ x_135 := (Nat.ne_of_lt (Nat.lt_of_lt_of_le P128_2.lt P135_1))
  have nq152 : el_116 ≠ x_135 := (Nat.ne_of_lt (Nat.lt_of_lt_of_le P128_4.lt P135_1))
  obtain ⟨fs, hr, hrun, hended, hW, hsame⟩ := X141.leave (v := some (.ref b101)) (fun h => by rw [Bd.returns] at h; cases h)
  refine ⟨_, _, pre0 _ ?_, hrun, hended, _, _, rfl, ?_, ⟨_, rfl⟩, hW, hsame.mono (by decide) (by decide)⟩
  · show own_S p e below s₁ m 0 #[oI p0, oI p1, oI p2, oU] [] _
    refine st101 _ ?_
    show own_S p e below T101 m 3 _ [(.ref b101)] _
    refine XS.dup X101.here hx rfl (hb hby d5_3) rfl rfl ?_
    show own_S p e below T101 m 4 _ [(.ref b101), (.ref b101)] _
    refine st104.trans ?_
    show own_S p e below T104 m 7 _ [(.ref b101)] _
    refine XS.astoreN X104.here hx rfl (hb hby d5_7) rfl rfl (l' := #[oI p0, oI p1, oI p2, oR b101]) rfl ?_
    refine XS.aloadN X104.here hx rfl (hb hby d5_8) rfl rfl ?_
    refine XS.iloadN X104.here hx rfl (hb hby d5_9) rfl ?_
    refine XS.iloadN X104.here hx rfl (hb hby d5_10) rfl ?_
    show own_S p e below T104 m 11 _ [(.int p1), (.int p0), (.ref b101)] _
    refine XS.iloadN X104.here hx rfl (hb hby d5_11) rfl ?_
    show own_S p e below T104 m 12 _ [(.int p2), (.int p1), (.int p0), (.ref b101)] _
    refine st107.trans ?_
    show own_S p e below T107 m 15 _ [(.double (own_val p0 p1 p2)), (.ref b101)] _
    refine st108.trans ?_
    show own_S p e below T108 m 18 _ [(.ref x_108), (.ref b101)] _
    refine st116.trans ?_
    show own_S p e below T116 m 23 #[oI p0, oI p1, oI p2, oR b101] [(.int 1)] _
    refine XS.pop X116.here hx rfl (hb hby d5_23) rfl rfl ?_
    show own_S p e below T116 m 24 _ [] _
    refine XS.aloadN X116.here hx rfl (hb hby d5_24) rfl rfl ?_
    refine XS.iloadN X116.here hx rfl (hb hby d5_25) rfl ?_
    refine XS.iloadN X116.here hx rfl (hb hby d5_26) rfl ?_
    refine XS.iloadN X116.here hx rfl (hb hby d5_27) rfl ?_
    show own_S p e below T116 m 28 _ [(.int p2), (.int p1), (.int p0), (.ref b101)] _
    refine XS.iconst X116.here hx rfl (hb hby d5_28) ?_
    show own_S p e below T116 m 29 _ [(.int 1), (.int p2), (.int p1), (.int p0), (.ref b101)] _
    refine XS.iadd X116.here hx rfl (hb hby d5_29) rfl ?_
    show own_S p e below T116 m 30 #[oI p0, oI p1, oI p2, oR b101] [(.int (p2 + (1 : Int32))), (.int p1), (.int p0), (.ref b101)] _
    refine st120.trans ?_
    show own_S p e below T120 m 33 _ [(.double (own_val p0 p1 (p2 + (1 : Int32)))), (.ref b101)] _
    refine st121.trans ?_
    show own_S p e below T121 m 36 _ [(.ref x_121), (.ref b101)] _
    refine st128.trans ?_
    show own_S p e below T128 m 41 _ [(.int 1)] _
    refine XS.pop X128.here hx rfl (hb hby d5_41) rfl rfl ?_
    show own_S p e below T128 m 42 _ [] _
    refine XS.aloadN X128.here hx rfl (hb hby d5_42) rfl rfl ?_
    refine XS.iloadN X128.here hx rfl (hb hby d5_43) rfl ?_
    refine XS.iloadN X128.here hx rfl (hb hby d5_44) rfl ?_
    refine XS.iloadN X128.here hx rfl (hb hby d5_45) rfl ?_
    show own_S p e below T128 m 46 _ [(.int p2), (.int p1), (.int p0), (.ref b101)] _
    refine XS.iconst X128.here hx rfl (hb hby d5_46) ?_
    show own_S p e below T128 m 47 _ [(.int 2), (.int p2), (.int p1), (.int p0), (.ref b101)] _
    refine XS.iadd X128.here hx rfl (hb hby d5_47) rfl ?_
    show own_S p e below T128 m 48 _ [(.int (p2 + (2 : Int32))), (.int p1), (.int p0), (.ref b101)] _
    refine st134.trans ?_
    show own_S p e below T134 m 51 _ [(.double (own_val p0 p1 (p2 + (2 : Int32)))), (.ref b101)] _
    refine st135.trans ?_
    show own_S p e below T135 m 54 _ [(.ref x_135), (.ref b101)] _
    refine st141.trans ?_
    show own_S p e below T141 m 59 _ [(.int 1)] _
    refine XS.pop X141.here hx rfl (hb hby d5_59) rfl rfl ?_
    show own_S p e below T141 m 60 #[oI p0, oI p1, oI p2, oR b101] [] _
    refine XS.aloadN X141.here hx rfl (hb hby d5_60) rfl rfl ?_
    show own_S p e below T141 m 61 _ [(.ref b101)] _
    exact retOut X141 hx Bd.returns rfl (Or.inr (Or.inr (Or.inr (Or.inr ⟨rfl, rfl, rfl⟩)))) (hb hby d5_61) hr
  · show Qm5 Z p0 p1 p2 de kde h0 n0 _ T141.heap _
    exact ⟨b101, el_116, x_108, x_121, x_135, kel_116, rfl, N141, KK143, sz_b101, sz_el_116, sz_x_108, sz_x_121, sz_x_135, (Fc138.keep P141_0), P141_1, Fr145, Fr146, Vr144, (Fc140.keep P141_0), P116_7, (((((P108_2.keep P116_0).keep P121_0).keep P128_0).keep P135_0).keep P141_0), (((((P108_3.keep P116_0 (ninS (Ne.symm nq147) nin0)).keep P121_0 nin0).keep P128_0 (ninS (Ne.symm nq147) (ninS nq148 nin0))).keep P135_0 nin0).keep P141_0 (ninS (Ne.symm nq147) (ninS nq148 nin0))), (((P121_2.keep P128_0).keep P135_0).keep P141_0), (((P121_3.keep P128_0 (ninS (Ne.symm nq149) (ninS (Ne.symm nq150) nin0))).keep P135_0 nin0).keep P141_0 (ninS (Ne.symm nq149) (ninS (Ne.symm nq150) nin0))), (P135_2.keep P141_0), (P135_3.keep P141_0 (ninS (Ne.symm nq151) (ninS (Ne.symm nq152) nin0)))⟩
theorem d58_0 : decode k58 0 = .ok (.aload_n 0, 1) := by decide +kernel
theorem d58_1 : decode k58 1 = .ok (.getfield 47, 3) := by decide +kernel
theorem d58_4 : decode k58 4 = .ok (.iload_n 1, 1) := by decide +kernel
theorem d58_5 : decode k58 5 = .ok (.aload_n 0, 1) := by decide +kernel
theorem d58_6 : decode k58 6 = .ok (.getfield 36, 3) := by decide +kernel
theorem d58_9 : decode k58 9 = .ok (.imul, 1) := by decide +kernel
theorem d58_10 : decode k58 10 = .ok (.iload_n 2, 1) := by decide +kernel
theorem d58_11 : decode k58 11 = .ok (.iadd, 1) := by decide +kernel
theorem d58_12 : decode k58 12 = .ok (.daload, 1) := by decide +kernel
theorem d58_13 : decode k58 13 = .ok (.dreturn, 1) := by decide +kernel
theorem efm58 (m : MethodId) (r0 : Addr) (p1 : Int32) (p2 : Int32) : entryFrame m #[(.ref r0), (.int p1), (.int p2)] 3 = mkF m 0 #[oR r0, oI p1, oI p2] [] := by first | (simp [entryFrame, mkF, argsToLocals, Value.category]; done) | rfl
def Qm58 (Z : State) (r0 : Addr) (p1 : Int32) (p2 : Int32) (va : Addr) (kva : ClassId) (vs : List Value) (y : UInt64) (h0 : Heap) (n0 : Nat) (v : Option Value) (h : Heap) (L : List Loc) : Prop := v = some (.double y) ∧ Fr n0 L ∧ (h = h0)
set_option maxRecDepth 65536 in
set_option maxHeartbeats 40000000 in
theorem rmm58 (l : Launch) (Z : State) (a0 : Array Value) (hw : own_HW Z a0) (ws : List Jvm.Cond) (r0 : Addr) (p1 : Int32) (p2 : Int32) (va : Addr) (kva : ClassId) (vs : List Value) (y : UInt64) (h0 : Heap) (n0 : Nat) (Z0 : n0 ≤ h0.size) (E_r0 : Exa Z h0 r0 kIV) (F_dimension_r0 : Fld Z h0 r0 kIV "dimension" "I" (.int 3)) (F_values_r0 : Fld Z h0 r0 kIV "values" "[D" (.ref va)) (V_va : Arv Z h0 va kva .double (12 : Int32) vs (.double 0)) (hin : ¬ ((p1 * (3 : Int32)) + p2) < (0 : Int32) ∧ ((p1 * (3 : Int32)) + p2) < (12 : Int32)) (hg : vs.getD (((p1 * (3 : Int32)) + p2)).toNatClampNeg (.double 0) = .double y) :
    MetFree l (⟨kIV, "score", "(II)D"⟩ : MethodName) (head1 (Jvm.Cond.code (⟨kIV, "score", "(II)D"⟩ : MethodName) prog_26_method_6_code 3 (some .double) :: ws) ({ frames := 0, cells := 0, slots := 0, locals := 0 } : Room)) (fun a U => a = #[(.ref r0), (.int p1), (.int p2)] ∧ Z.Warmed39 U.vm ∧ U.heap = h0) (fun _ _ _ _ _ => True) (fun _ U o U' => ∃ v L, o = .returned v ∧ Qm58 Z r0 p1 p2 va kva vs y h0 n0 v U'.heap L ∧ FrameEnd U o U' L ({ frames := 0, cells := 0, slots := 0, locals := 0 } : Room).cells ({ frames := 0, cells := 0, slots := 0, locals := 0 } : Room).slots) := by
  refine MetFree.of_bodySF (plainFor_of_name pn18) hisR ?_
  intro p e s m args below meth c s₁ Bd hml0 hP hK
  obtain ⟨rfl, hZ, hh⟩ := hP
  have hx := Bd.exec
  have hby := Bd.bytes
  have hml : c.maxLocals = 3 := hml0
  have hown : s.vm.findClass kIV = some m.cls := findClass_of_methodNamed Bd.named
  have hnm := (name_of_methodNamed Bd.named Bd.method).1
  have X0 : Stand p l e ({ frames := 0, cells := 0, slots := 0, locals := 0 } : Room) s m #[(.ref r0), (.int p1), (.int p2)] below meth c s₁ [] 0 0 := Stand.of_body Bd
  have e0 : s₁.heap = h0 := by rw [← hh, Bd.state]; rfl
  have N0 := Fr.nil n0
  have pre0 : ∀ t, Steps p.tables e below (s₁.setTop (mkF m 0 #[oR r0, oI p1, oI p2] [])) t → Steps p.tables e below (s₁.setTop (entryFrame m #[(.ref r0), (.int p1), (.int p2)] 3)) t := fun t k => castTop (efm58 m r0 p1 p2) k
  obtain ⟨T101, X101, e101, st101⟩ := getF X0 hx hZ hown (host := "") (Or.inl (own_w hw 371 rfl)) Via.refl e0 F_values_r0 (g := (mkF m 1 #[oR r0, oI p1, oI p2] [(.ref r0)])) rfl rfl (hb hby d58_1)
  obtain ⟨T102, X102, e102, st102⟩ := getF X101 hx hZ hown (host := "") (Or.inl (own_w hw 363 rfl)) Via.refl e101 F_dimension_r0 (g := (mkF m 6 #[oR r0, oI p1, oI p2] [(.ref r0), (.int p1), (.ref va)])) rfl rfl (hb hby d58_6)
  obtain ⟨cl103, Ar103, qk103, Sz103, Nz103, Hh103, Gg103⟩ := id V_va
  have hin104 : ¬ (((p1 * (3 : Int32)) + p2) < 0 ∨ cl103.slots.size ≤ (((p1 * (3 : Int32)) + p2)).toNatClampNeg) := inb_of Sz103 hin
  have hat104 : cl103.slots[(((p1 * (3 : Int32)) + p2)).toNatClampNeg]? = some (.double y) := Has.at Hh103 hin104 hg
  obtain ⟨fs, hr, hrun, hended, hW, hsame⟩ := X102.leave (v := some (.double y)) (fun h => by rw [Bd.returns] at h; cases h)
  refine ⟨_, _, pre0 _ ?_, hrun, hended, _, _, rfl, ?_, ⟨_, rfl⟩, hW, hsame.mono (by decide) (by decide)⟩
  · show own_S p e below s₁ m 0 #[oR r0, oI p1, oI p2] [] _
    refine XS.aloadN X0.here hx rfl (hb hby d58_0) rfl rfl ?_
    show own_S p e below s₁ m 1 _ [(.ref r0)] _
    refine st101 _ ?_
    show own_S p e below T101 m 4 _ [(.ref va)] _
    refine XS.iloadN X101.here hx rfl (hb hby d58_4) rfl ?_
    refine XS.aloadN X101.here hx rfl (hb hby d58_5) rfl rfl ?_
    show own_S p e below T101 m 6 _ [(.ref r0), (.int p1), (.ref va)] _
    refine st102 _ ?_
    show own_S p e below T102 m 9 _ [(.int 3), (.int p1), (.ref va)] _
    refine XS.imul X102.here hx rfl (hb hby d58_9) rfl ?_
    show own_S p e below T102 m 10 _ [(.int (p1 * (3 : Int32))), (.ref va)] _
    refine XS.iloadN X102.here hx rfl (hb hby d58_10) rfl ?_
    show own_S p e below T102 m 11 #[oR r0, oI p1, oI p2] [(.int p2), (.int (p1 * (3 : Int32))), (.ref va)] _
    refine XS.iadd X102.here hx rfl (hb hby d58_11) rfl ?_
    show own_S p e below T102 m 12 _ [(.int ((p1 * (3 : Int32)) + p2)), (.ref va)] _
    refine X102.daload hx (j := ((p1 * (3 : Int32)) + p2)) (v := (.double y)) (by rw [e102]; exact Ar103.1) (State.isArrayOf_alike hZ.alike Ar103.2.1) Ar103.2.2 hin104 hat104 (g := (mkF m 12 #[oR r0, oI p1, oI p2] [(.int ((p1 * (3 : Int32)) + p2)), (.ref va)])) rfl rfl (hb hby d58_12) _ ?_
    show own_S p e below T102 m 13 _ [(.double y)] _
    exact retOut X102 hx Bd.returns rfl (Or.inr (Or.inr (Or.inl ⟨rfl, rfl, _, rfl⟩))) (hb hby d58_13) hr
  · show Qm58 Z r0 p1 p2 va kva vs y h0 n0 _ T102.heap _
    rw [e102]
    exact ⟨rfl, N0, rfl⟩
theorem pd32 : parseMethodDescriptor "(III)Ljava/util/List;" = some ⟨[.int, .int, .int], some (.object "java/util/List")⟩ := by decide +kernel
theorem pd33 : parseMethodDescriptor "(Ljava/lang/String;Ljava/util/List;)V" = some ⟨[(.object "java/lang/String"), (.object "java/util/List")], none⟩ := by decide +kernel
theorem pd34 : parseMethodDescriptor "(Ljava/util/List;)V" = some ⟨[(.object "java/util/List")], none⟩ := by decide +kernel
theorem pd35 : parseMethodDescriptor "(II)D" = some ⟨[.int, .int], some .double⟩ := by decide +kernel
theorem efm0 (m : MethodId) (p0 : Int32) (p1 : Int32) (p2 : Int32) : entryFrame m #[(.int p0), (.int p1), (.int p2)] maxLocals = mkF m 0 #[oI p0, oI p1, oI p2, oU, oU, oU, oU, oU, oU, oU, oU, oU] [] := by first | (simp [entryFrame, mkF, argsToLocals, Value.category, maxLocals]; done) | rfl
def Qm0 (Z : State) (p0 : Int32) (p1 : Int32) (p2 : Int32) (de : Addr) (kde : ClassId) (em : Addr) (mr : Addr) (h0 : Heap) (n0 : Nat) (v : Option Value) (h : Heap) (L : List Loc) : Prop := v = some (.int 1) ∧ Fr n0 L
set_option maxRecDepth 65536 in
set_option maxHeartbeats 40000000 in
theorem rmm0 (l : Launch) (Z : State) (a0 : Array Value) (hw : own_HW Z a0) (ws : List Jvm.Cond) (p0 : Int32) (p1 : Int32) (p2 : Int32) (de : Addr) (kde : ClassId) (em : Addr) (mr : Addr) (h0 : Heap) (n0 : Nat) (Z0 : n0 ≤ h0.size) (hOld : Old Z n0 h0) (S_DEFAULTCAPACITY_EMPTY_ELEMENTDATA : Sta Z Z.heap kAL "DEFAULTCAPACITY_EMPTY_ELEMENTDATA" kOA (.ref de)) (V_de : Arv Z Z.heap de kde (.object kOB) (0 : Int32) [] .null) (E_de : Exa Z Z.heap de kOA) (S_EMPTY : Sta Z Z.heap "java/util/ImmutableCollections" "EMPTY" "Ljava/lang/Object;" (.ref em)) (E_em : Exa Z Z.heap em kOB) (M_mr : own_Mi Z kOA mr) :
    MetFree l x (head1 (Jvm.Cond.code x code maxLocals ret :: ws) room_1) (fun a U => a = #[(.int p0), (.int p1), (.int p2)] ∧ Z.Warmed39 U.vm ∧ U.heap = h0) (fun _ _ _ _ _ => True) (fun _ U o U' => ∃ v L, o = .returned v ∧ Qm0 Z p0 p1 p2 de kde em mr h0 n0 v U'.heap L ∧ ReturnedEndW U o U' L room_1.cells room_1.slots) := by
  refine MetFree.of_bodySF (plainFor_of_name pn19) hisR ?_
  intro p e s m args below meth c s₁ Bd hml0 hP hK
  obtain ⟨rfl, hZ, hh⟩ := hP
  have hx := Bd.exec
  have hby := Bd.bytes
  have hml : c.maxLocals = 12 := hml0
  have hown : s.vm.findClass "com/example/matchwright/matchwright/core/InstanceVectorsScorePinLaw" = some m.cls := findClass_of_methodNamed Bd.named
  have hnm := (name_of_methodNamed Bd.named Bd.method).1
  have X0 : Stand p l e room_1 (s.setVm s.vm) m #[(.int p0), (.int p1), (.int p2)] below meth c s₁ [] 0 0 := Stand.of_body Bd
  have e0 : s₁.heap = h0 := by rw [← hh, Bd.state]; rfl
  have N0 := Fr.nil n0
  have pre0 : ∀ t, Steps p.tables e below (s₁.setTop (mkF m 0 #[oI p0, oI p1, oI p2, oU, oU, oU, oU, oU, oU, oU, oU, oU] [])) t → Steps p.tables e below (s₁.setTop (entryFrame m #[(.int p0), (.int p1), (.int p2)] maxLocals)) t := fun t k => castTop (efm0 m p0 p1 p2) k
  have hS0 := (State.WarmedH.refl s).since 0
  replace hZ : Z.Warmed39 (s.setVm s.vm).vm := hZ
  replace hown : (s.setVm s.vm).vm.findClass "com/example/matchwright/matchwright/core/InstanceVectorsScorePinLaw" = some m.cls := hown
  obtain ⟨vv, hvv⟩ : ∃ zz, zz = (p2 &&& (3 : Int32)) := ⟨_, rfl⟩
  obtain ⟨kk, hkk⟩ : ∃ zz, zz = (((p2.toUInt32 >>> ((2 : Int32) &&& 31).toUInt32).toInt32) % (3 : Int32)) := ⟨_, rfl⟩
  have hV := own_v4 hvv
  have hK3 := own_k3 hkk
  obtain ⟨st, hst⟩ : ∃ zz, zz = own_stf vv := ⟨_, rfl⟩
  obtain ⟨T101, h101, X101, e101, E101, A101, D101, -, st101⟩ := newO X0 hx hZ hown (own_w hw 0 rfl) (own_w hw 1 rfl) (own_w hw 2 rfl) e0 (g := (mkF m 11 #[oI p0, oI p1, oI p2, oI vv, oI kk, oU, oU, oU, oU, oU, oU, oU] [])) rfl (hb hby at_11) (by decide) (by decide)
  obtain ⟨b101, g101⟩ : ∃ z, z = h0.size := ⟨_, rfl⟩
  rw [← g101] at A101 D101 st101
  have g_b101 : n0 ≤ b101 := Nat.le_trans Z0 (Nat.le_of_eq g101.symm)
  have ZZ103 : n0 ≤ h101.size := Nat.le_trans Z0 E101.1
  have F_modCount_b101 : Fld Z h101 b101 kABL "modCount" "I" (.int 0) := D101 (Or.inl (own_w hw 22 rfl)) (ty := .int) (by decide)
  have F_elementData_b101 : Fld Z h101 b101 kAL "elementData" kOA .null := D101 (Or.inl (own_w hw 25 rfl)) (ty := (.array (.object kOB))) (by decide)
  have F_size_b101 : Fld Z h101 b101 kAL "size" "I" (.int 0) := D101 (Or.inl (own_w hw 64 rfl)) (ty := .int) (by decide)
  obtain ⟨_, T104, L104, X104, hQ104, st104⟩ := own_cC X101 hx hZ hw hown (b := b101) (W := 1) (rmm1 l Z a0 hw [] b101 .null (.int 0) (.int 0) de h101 n0 ZZ103 A101 g_b101 F_elementData_b101 F_size_b101 F_modCount_b101 (hOld.ext E101) S_DEFAULTCAPACITY_EMPTY_ELEMENTDATA) (by decide) (by decide) (by decide) rfl 3 rfl 4 rfl 5 rfl 2 rfl e101 (g := (mkF m 15 #[oI p0, oI p1, oI p2, oI vv, oI kk, oU, oU, oU, oU, oU, oU, oU] [(.ref b101), (.ref b101)])) rfl (by rw [hml]; rfl) (argsL := []) (rest := [(.ref b101)]) (lenOf pd0 rfl) rfl (Nat.le_of_eq rfl) (hb hby at_15) rfl (cN := 1) rfl (by decide) (sN := 3) rfl (by decide)
  obtain ⟨rfl, Nq104, P104_0, P104_1, P104_2, P104_3⟩ := hQ104
  have N104 := Fr.app N0 Nq104
  have ZZ106 : n0 ≤ T104.heap.size := Nat.le_trans ZZ103 P104_0.1
  have Ol107 := ((hOld.ext E101).keep P104_0 (allS g_b101 all0))
  obtain ⟨_, T108, L108, X108, hQ108, st108⟩ := own_cS X104 hx hZ hw hown (W := 1) (rmm5 l Z a0 hw [] p0 p1 (0 : Int32) de kde T104.heap n0 ZZ106 Ol107 S_DEFAULTCAPACITY_EMPTY_ELEMENTDATA V_de E_de) (by decide) (by decide) (by decide) 26 rfl 27 rfl 28 rfl 29 rfl rfl (g := (mkF m 25 #[oI p0, oI p1, oI p2, oI vv, oI kk, oR b101, oU, oU, oU, oU, oU, oU] [(.int 0), (.int p1), (.int p0), (.ref b101)])) rfl (by rw [hml]; rfl) (argsL := [(.int p0), (.int p1), (.int 0)]) (rest := [(.ref b101)]) (lenOf pd32 rfl) rfl (Nat.le_of_eq rfl) (hb hby at_25) rfl (cN := 6) rfl (by decide) (sN := 19) rfl (by decide)
  obtain ⟨lo_108, le_108, x0_108, x1_108, x2_108, kle_108, rfl, Nq108, P108_0, P108_1, P108_2, P108_3, P108_4, P108_5, P108_6, P108_7, P108_8, P108_9, P108_10, P108_11, P108_12, P108_13, P108_14, P108_15, P108_16, P108_17, P108_18⟩ := hQ108
  have N108 := Fr.app N104 Nq108
  have g_lo_108 : n0 ≤ lo_108 := Nat.le_trans ZZ106 P108_1
  have g_le_108 : n0 ≤ le_108 := Nat.le_trans ZZ106 P108_2
  have g_x0_108 : n0 ≤ x0_108 := Nat.le_trans ZZ106 P108_3
  have g_x1_108 : n0 ≤ x1_108 := Nat.le_trans ZZ106 P108_4
  have g_x2_108 : n0 ≤ x2_108 := Nat.le_trans ZZ106 P108_5
  have ZZ110 : n0 ≤ T108.heap.size := Nat.le_trans ZZ106 P108_0.1
  have Fc111 := ((A101.keep P104_0).keep P108_0)
  have Fc112 := (P104_1.keep P108_0 nin0)
  have Fc113 := (P104_2.keep P108_0 nin0)
  have Fc114 := (P104_3.keep P108_0 nin0)
  obtain ⟨_, T115, L115, X115, hQ115, st115⟩ := own_cI X108 hx hZ hw hown (b := b101) (W := 0) (rm_a1g l Z a0 hw [] b101 lo_108 (0 : Int32) de kde T108.heap n0 ZZ110 Fc111 g_b101 Fc112 Fc113 Fc114 (Ol107.keep P108_0 all0) S_DEFAULTCAPACITY_EMPTY_ELEMENTDATA V_de E_de (Ins.of_exa P108_6 (own_w hw 87 rfl))) (by decide) (by decide) (by decide) 52 rfl 53 rfl 54 rfl 55 rfl 56 rfl 57 rfl 58 rfl 59 rfl 60 rfl 2 rfl rfl Fc111 (g := (mkF m 28 #[oI p0, oI p1, oI p2, oI vv, oI kk, oR b101, oU, oU, oU, oU, oU, oU] [(.ref lo_108), (.ref b101)])) rfl (by rw [hml]; rfl) (argsL := [(.ref lo_108)]) (rest := []) (lenOf pd25 rfl) rfl (Nat.le_of_eq rfl) (hb hby at_28) rfl (cN := 7) rfl (by decide) (sN := 29) rfl (by decide)
  obtain ⟨el_115, kel_115, rfl, Nq115, P115_0, P115_1, P115_2, P115_3, P115_4, P115_5, P115_6, P115_7⟩ := hQ115
  have N115 := Fr.app N108 Nq115
  have g_el_115 : n0 ≤ el_115 := Nat.le_trans ZZ110 P115_1
  have ZZ117 : n0 ≤ T115.heap.size := Nat.le_trans ZZ110 P115_0.1
  have Fr118 : Fld Z T115.heap b101 kABL "modCount" "I" (.int 1) := (own_fi (by decide) P115_4)
  have Ol119 := ((Ol107.keep P108_0 all0).keep P115_0 (allS g_b101 all0))
  obtain ⟨_, T120, L120, X120, hQ120, st120⟩ := own_cS X115 hx hZ hw hown (W := 1) (rmm5 l Z a0 hw [] p0 p1 (3 : Int32) de kde T115.heap n0 ZZ117 Ol119 S_DEFAULTCAPACITY_EMPTY_ELEMENTDATA V_de E_de) (by decide) (by decide) (by decide) 26 rfl 27 rfl 28 rfl 29 rfl rfl (g := (mkF m 39 #[oI p0, oI p1, oI p2, oI vv, oI kk, oR b101, oU, oU, oU, oU, oU, oU] [(.int 3), (.int p1), (.int p0), (.ref b101)])) rfl (by rw [hml]; rfl) (argsL := [(.int p0), (.int p1), (.int 3)]) (rest := [(.ref b101)]) (lenOf pd32 rfl) rfl (Nat.le_of_eq rfl) (hb hby at_39) rfl (cN := 12) rfl (by decide) (sN := 45) rfl (by decide)
  obtain ⟨lo_120, le_120, x0_120, x1_120, x2_120, kle_120, rfl, Nq120, P120_0, P120_1, P120_2, P120_3, P120_4, P120_5, P120_6, P120_7, P120_8, P120_9, P120_10, P120_11, P120_12, P120_13, P120_14, P120_15, P120_16, P120_17, P120_18⟩ := hQ120
  have N120 := Fr.app N115 Nq120
  have g_lo_120 : n0 ≤ lo_120 := Nat.le_trans ZZ117 P120_1
  have g_le_120 : n0 ≤ le_120 := Nat.le_trans ZZ117 P120_2
  have g_x0_120 : n0 ≤ x0_120 := Nat.le_trans ZZ117 P120_3
  have g_x1_120 : n0 ≤ x1_120 := Nat.le_trans ZZ117 P120_4
  have g_x2_120 : n0 ≤ x2_120 := Nat.le_trans ZZ117 P120_5
  have ZZ122 : n0 ≤ T120.heap.size := Nat.le_trans ZZ117 P120_0.1
  have Fc123 := ((Fc111.keep P115_0).keep P120_0)
  have Fc124 := (P115_2.keep P120_0 nin0)
  have Fc125 := (P115_3.keep P120_0 nin0)
  have Fc126 := (P115_5.keep P120_0 nin0)
  obtain ⟨_, T127, L127, X127, hQ127, st127⟩ := own_cI X120 hx hZ hw hown (b := b101) (W := 0) (rm_a1n l Z a0 hw [] b101 lo_120 (1 : Int32) el_115 kel_115 (1 : Int32) (10 : Int32) 1 [(.ref lo_108), .null, .null, .null] T120.heap n0 ZZ122 Fc123 g_b101 g_el_115 Fc124 Fc125 (Fr118.keep P120_0 nin0) Fc126 (P115_6.keep P120_0) P115_7 (Ins.of_exa P120_6 (own_w hw 87 rfl)) (by decide) (⟨by decide, by decide⟩) (by decide) (Nat.le_of_ble_eq_true rfl)) (by decide) (by decide) (by decide) 52 rfl 53 rfl 54 rfl 55 rfl 56 rfl 57 rfl 58 rfl 59 rfl 60 rfl 2 rfl rfl Fc123 (g := (mkF m 42 #[oI p0, oI p1, oI p2, oI vv, oI kk, oR b101, oU, oU, oU, oU, oU, oU] [(.ref lo_120), (.ref b101)])) rfl (by rw [hml]; rfl) (argsL := [(.ref lo_120)]) (rest := []) (lenOf pd25 rfl) rfl (Nat.le_of_eq rfl) (hb hby at_42) rfl (cN := 12) rfl (by decide) (sN := 45) rfl (by decide)
  obtain ⟨rfl, Nq127, P127_0, P127_1, P127_2, P127_3, P127_4⟩ := hQ127
  have N127 := Fr.app N120 Nq127
  have ZZ129 : n0 ≤ T127.heap.size := Nat.le_trans ZZ122 P127_0.1
  have Vr130 : Arv Z T127.heap el_115 kel_115 (.object kOB) (10 : Int32) [(.ref lo_108), (.ref lo_120), .null, .null] .null := P127_4
  have Fr131 : Fld Z T127.heap b101 kAL "size" "I" (.int 2) := (own_fi (by decide) P127_2)
  have Fr132 : Fld Z T127.heap b101 kABL "modCount" "I" (.int 2) := (own_fi (by decide) P127_3)
  obtain ⟨T133, h133, X133, e133, E133, A133, D133, -, st133⟩ := newO X127 hx hZ hown (own_w hw 0 rfl) (own_w hw 1 rfl) (own_w hw 2 rfl) rfl (g := (mkF m 48 #[oI p0, oI p1, oI p2, oI vv, oI kk, oR b101, oU, oU, oU, oU, oU, oU] [])) rfl (hb hby at_48) (by decide) (by decide)
  obtain ⟨b133, g133⟩ : ∃ z, z = T127.heap.size := ⟨_, rfl⟩
  rw [← g133] at A133 D133 st133
  have g_b133 : n0 ≤ b133 := Nat.le_trans ZZ129 (Nat.le_of_eq g133.symm)
  have ZZ135 : n0 ≤ h133.size := Nat.le_trans ZZ129 E133.1
  have F_modCount_b133 : Fld Z h133 b133 kABL "modCount" "I" (.int 0) := D133 (Or.inl (own_w hw 22 rfl)) (ty := .int) (by decide)
  have F_elementData_b133 : Fld Z h133 b133 kAL "elementData" kOA .null := D133 (Or.inl (own_w hw 25 rfl)) (ty := (.array (.object kOB))) (by decide)
  have F_size_b133 : Fld Z h133 b133 kAL "size" "I" (.int 0) := D133 (Or.inl (own_w hw 64 rfl)) (ty := .int) (by decide)
  have Ol136 := (((Ol119.keep P120_0 all0).keep P127_0 (allS g_b101 (allS g_el_115 all0))).ext E133)
  obtain ⟨_, T137, L137, X137, hQ137, st137⟩ := own_cC X133 hx hZ hw hown (b := b133) (W := 1) (rmm1 l Z a0 hw [] b133 .null (.int 0) (.int 0) de h133 n0 ZZ135 A133 g_b133 F_elementData_b133 F_size_b133 F_modCount_b133 Ol136 S_DEFAULTCAPACITY_EMPTY_ELEMENTDATA) (by decide) (by decide) (by decide) rfl 3 rfl 4 rfl 5 rfl 2 rfl e133 (g := (mkF m 52 #[oI p0, oI p1, oI p2, oI vv, oI kk, oR b101, oU, oU, oU, oU, oU, oU] [(.ref b133), (.ref b133)])) rfl (by rw [hml]; rfl) (argsL := []) (rest := [(.ref b133)]) (lenOf pd0 rfl) rfl (Nat.le_of_eq rfl) (hb hby at_52) rfl (cN := 13) rfl (by decide) (sN := 48) rfl (by decide)
  obtain ⟨rfl, Nq137, P137_0, P137_1, P137_2, P137_3⟩ := hQ137
  have N137 := Fr.app N127 Nq137
  have ZZ139 : n0 ≤ T137.heap.size := Nat.le_trans ZZ135 P137_0.1
  have Ol140 := (Ol136.keep P137_0 (allS g_b133 all0))
  obtain ⟨_, T141, L141, X141, hQ141, st141⟩ := own_cS X137 hx hZ hw hown (W := 1) (rmm5 l Z a0 hw [] p0 p1 (6 : Int32) de kde T137.heap n0 ZZ139 Ol140 S_DEFAULTCAPACITY_EMPTY_ELEMENTDATA V_de E_de) (by decide) (by decide) (by decide) 26 rfl 27 rfl 28 rfl 29 rfl rfl (g := (mkF m 63 #[oI p0, oI p1, oI p2, oI vv, oI kk, oR b101, oR b133, oU, oU, oU, oU, oU] [(.int 6), (.int p1), (.int p0), (.ref b133)])) rfl (by rw [hml]; rfl) (argsL := [(.int p0), (.int p1), (.int 6)]) (rest := [(.ref b133)]) (lenOf pd32 rfl) rfl (Nat.le_of_eq rfl) (hb hby at_63) rfl (cN := 18) rfl (by decide) (sN := 64) rfl (by decide)
  obtain ⟨lo_141, le_141, x0_141, x1_141, x2_141, kle_141, rfl, Nq141, P141_0, P141_1, P141_2, P141_3, P141_4, P141_5, P141_6, P141_7, P141_8, P141_9, P141_10, P141_11, P141_12, P141_13, P141_14, P141_15, P141_16, P141_17, P141_18⟩ := hQ141
  have N141 := Fr.app N137 Nq141
  have g_lo_141 : n0 ≤ lo_141 := Nat.le_trans ZZ139 P141_1
  have g_le_141 : n0 ≤ le_141 := Nat.le_trans ZZ139 P141_2
  have g_x0_141 : n0 ≤ x0_141 := Nat.le_trans ZZ139 P141_3
  have g_x1_141 : n0 ≤ x1_141 := Nat.le_trans ZZ139 P141_4
  have g_x2_141 : n0 ≤ x2_141 := Nat.le_trans ZZ139 P141_5
  have ZZ143 : n0 ≤ T141.heap.size := Nat.le_trans ZZ139 P141_0.1
  have Fc144 := ((A133.keep P137_0).keep P141_0)
  have Fc145 := (P137_1.keep P141_0 nin0)
  have Fc146 := (P137_2.keep P141_0 nin0)
  have Fc147 := (P137_3.keep P141_0 nin0)
  obtain ⟨_, T148, L148, X148, hQ148, st148⟩ := own_cI X141 hx hZ hw hown (b := b133) (W := 0) (rm_a1g l Z a0 hw [] b133 lo_141 (0 : Int32) de kde T141.heap n0 ZZ143 Fc144 g_b133 Fc145 Fc146 Fc147 (Ol140.keep P141_0 all0) S_DEFAULTCAPACITY_EMPTY_ELEMENTDATA V_de E_de (Ins.of_exa P141_6 (own_w hw 87 rfl))) (by decide) (by decide) (by decide) 52 rfl 53 rfl 54 rfl 55 rfl 56 rfl 57 rfl 58 rfl 59 rfl 60 rfl 2 rfl rfl Fc144 (g := (mkF m 66 #[oI p0, oI p1, oI p2, oI vv, oI kk, oR b101, oR b133, oU, oU, oU, oU, oU] [(.ref lo_141), (.ref b133)])) rfl (by rw [hml]; rfl) (argsL := [(.ref lo_141)]) (rest := []) (lenOf pd25 rfl) rfl (Nat.le_of_eq rfl) (hb hby at_66) rfl (cN := 19) rfl (by decide) (sN := 74) rfl (by decide)
  obtain ⟨el_148, kel_148, rfl, Nq148, P148_0, P148_1, P148_2, P148_3, P148_4, P148_5, P148_6, P148_7⟩ := hQ148
  have N148 := Fr.app N141 Nq148
  have g_el_148 : n0 ≤ el_148 := Nat.le_trans ZZ143 P148_1
  have ZZ150 : n0 ≤ T148.heap.size := Nat.le_trans ZZ143 P148_0.1
  have Fr151 : Fld Z T148.heap b133 kABL "modCount" "I" (.int 1) := (own_fi (by decide) P148_4)
  have Ol152 := ((Ol140.keep P141_0 all0).keep P148_0 (allS g_b133 all0))
  obtain ⟨_, T153, L153, X153, hQ153, st153⟩ := own_cS X148 hx hZ hw hown (W := 1) (rmm5 l Z a0 hw [] p0 p1 (9 : Int32) de kde T148.heap n0 ZZ150 Ol152 S_DEFAULTCAPACITY_EMPTY_ELEMENTDATA V_de E_de) (by decide) (by decide) (by decide) 26 rfl 27 rfl 28 rfl 29 rfl rfl (g := (mkF m 78 #[oI p0, oI p1, oI p2, oI vv, oI kk, oR b101, oR b133, oU, oU, oU, oU, oU] [(.int 9), (.int p1), (.int p0), (.ref b133)])) rfl (by rw [hml]; rfl) (argsL := [(.int p0), (.int p1), (.int 9)]) (rest := [(.ref b133)]) (lenOf pd32 rfl) rfl (Nat.le_of_eq rfl) (hb hby at_78) rfl (cN := 24) rfl (by decide) (sN := 90) rfl (by decide)
  obtain ⟨lo_153, le_153, x0_153, x1_153, x2_153, kle_153, rfl, Nq153, P153_0, P153_1, P153_2, P153_3, P153_4, P153_5, P153_6, P153_7, P153_8, P153_9, P153_10, P153_11, P153_12, P153_13, P153_14, P153_15, P153_16, P153_17, P153_18⟩ := hQ153
  have N153 := Fr.app N148 Nq153
  have g_lo_153 : n0 ≤ lo_153 := Nat.le_trans ZZ150 P153_1
  have g_le_153 : n0 ≤ le_153 := Nat.le_trans ZZ150 P153_2
  have g_x0_153 : n0 ≤ x0_153 := Nat.le_trans ZZ150 P153_3
  have g_x1_153 : n0 ≤ x1_153 := Nat.le_trans ZZ150 P153_4
  have g_x2_153 : n0 ≤ x2_153 := Nat.le_trans ZZ150 P153_5
  have ZZ155 : n0 ≤ T153.heap.size := Nat.le_trans ZZ150 P153_0.1
  have Fc156 := ((Fc144.keep P148_0).keep P153_0)
  have Fc157 := (P148_2.keep P153_0 nin0)
  have Fc158 := (P148_3.keep P153_0 nin0)
  have Fc159 := (P148_5.keep P153_0 nin0)
  obtain ⟨_, T160, L160, X160, hQ160, st160⟩ := own_cI X153 hx hZ hw hown (b := b133) (W := 0) (rm_a1n l Z a0 hw [] b133 lo_153 (1 : Int32) el_148 kel_148 (1 : Int32) (10 : Int32) 1 [(.ref lo_141), .null, .null, .null] T153.heap n0 ZZ155 Fc156 g_b133 g_el_148 Fc157 Fc158 (Fr151.keep P153_0 nin0) Fc159 (P148_6.keep P153_0) P148_7 (Ins.of_exa P153_6 (own_w hw 87 rfl)) (by decide) (⟨by decide, by decide⟩) (by decide) (Nat.le_of_ble_eq_true rfl)) (by decide) (by decide) (by decide) 52 rfl 53 rfl 54 rfl 55 rfl 56 rfl 57 rfl 58 rfl 59 rfl 60 rfl 2 rfl rfl Fc156 (g := (mkF m 81 #[oI p0, oI p1, oI p2, oI vv, oI kk, oR b101, oR b133, oU, oU, oU, oU, oU] [(.ref lo_153), (.ref b133)])) rfl (by rw [hml]; rfl) (argsL := [(.ref lo_153)]) (rest := []) (lenOf pd25 rfl) rfl (Nat.le_of_eq rfl) (hb hby at_81) rfl (cN := 24) rfl (by decide) (sN := 90) rfl (by decide)
  obtain ⟨rfl, Nq160, P160_0, P160_1, P160_2, P160_3, P160_4⟩ := hQ160
  have N160 := Fr.app N153 Nq160
  have ZZ162 : n0 ≤ T160.heap.size := Nat.le_trans ZZ155 P160_0.1
  have Vr163 : Arv Z T160.heap el_148 kel_148 (.object kOB) (10 : Int32) [(.ref lo_141), (.ref lo_153), .null, .null] .null := P160_4
  have Fr164 : Fld Z T160.heap b133 kAL "size" "I" (.int 2) := (own_fi (by decide) P160_2)
  have Fr165 : Fld Z T160.heap b133 kABL "modCount" "I" (.int 2) := (own_fi (by decide) P160_3)
  obtain ⟨T166, h166, X166, e166, E166, A166, D166, -, st166⟩ := newO X160 hx hZ hown (own_w hw 0 rfl) (own_w hw 1 rfl) (own_w hw 2 rfl) rfl (g := (mkF m 87 #[oI p0, oI p1, oI p2, oI vv, oI kk, oR b101, oR b133, oU, oU, oU, oU, oU] [])) rfl (hb hby at_87) (by decide) (by decide)
  obtain ⟨b166, g166⟩ : ∃ z, z = T160.heap.size := ⟨_, rfl⟩
  rw [← g166] at A166 D166 st166
  have g_b166 : n0 ≤ b166 := Nat.le_trans ZZ162 (Nat.le_of_eq g166.symm)
  have ZZ168 : n0 ≤ h166.size := Nat.le_trans ZZ162 E166.1
  have F_modCount_b166 : Fld Z h166 b166 kABL "modCount" "I" (.int 0) := D166 (Or.inl (own_w hw 22 rfl)) (ty := .int) (by decide)
  have F_elementData_b166 : Fld Z h166 b166 kAL "elementData" kOA .null := D166 (Or.inl (own_w hw 25 rfl)) (ty := (.array (.object kOB))) (by decide)
  have F_size_b166 : Fld Z h166 b166 kAL "size" "I" (.int 0) := D166 (Or.inl (own_w hw 64 rfl)) (ty := .int) (by decide)
  have Ol169 := (((Ol152.keep P153_0 all0).keep P160_0 (allS g_b133 (allS g_el_148 all0))).ext E166)
  obtain ⟨_, T170, L170, X170, hQ170, st170⟩ := own_cC X166 hx hZ hw hown (b := b166) (W := 1) (rmm1 l Z a0 hw [] b166 .null (.int 0) (.int 0) de h166 n0 ZZ168 A166 g_b166 F_elementData_b166 F_size_b166 F_modCount_b166 Ol169 S_DEFAULTCAPACITY_EMPTY_ELEMENTDATA) (by decide) (by decide) (by decide) rfl 3 rfl 4 rfl 5 rfl 2 rfl e166 (g := (mkF m 91 #[oI p0, oI p1, oI p2, oI vv, oI kk, oR b101, oR b133, oU, oU, oU, oU, oU] [(.ref b166), (.ref b166)])) rfl (by rw [hml]; rfl) (argsL := []) (rest := [(.ref b166)]) (lenOf pd0 rfl) rfl (Nat.le_of_eq rfl) (hb hby at_91) rfl (cN := 25) rfl (by decide) (sN := 93) rfl (by decide)
  obtain ⟨rfl, Nq170, P170_0, P170_1, P170_2, P170_3⟩ := hQ170
  have N170 := Fr.app N160 Nq170
  have ZZ172 : n0 ≤ T170.heap.size := Nat.le_trans ZZ168 P170_0.1
  obtain ⟨T173, h173, X173, e173, E173, A173, D173, -, st173⟩ := newO X170 hx hZ hown (own_w hw 88 rfl) (own_w hw 89 rfl) (own_w hw 90 rfl) rfl (g := (mkF m 98 #[oI p0, oI p1, oI p2, oI vv, oI kk, oR b101, oR b133, oR b166, oU, oU, oU, oU] [(.ref b166)])) rfl (hb hby at_98) (by decide) (by decide)
  obtain ⟨b173, g173⟩ : ∃ z, z = T170.heap.size := ⟨_, rfl⟩
  rw [← g173] at A173 D173 st173
  have g_b173 : n0 ≤ b173 := Nat.le_trans ZZ172 (Nat.le_of_eq g173.symm)
  have ZZ175 : n0 ≤ h173.size := Nat.le_trans ZZ172 E173.1
  have F_name_b173 : Fld Z h173 b173 kMO "name" "Ljava/lang/String;" .null := D173 (Or.inr (own_w hw 318 rfl)) (ty := (.object "java/lang/String")) (by decide)
  have F_vectors_b173 : Fld Z h173 b173 kMO "vectors" "Ljava/util/List;" .null := D173 (Or.inr (own_w hw 320 rfl)) (ty := (.object "java/util/List")) (by decide)
  obtain ⟨b176, T176, h176, k176, X176, e176, E176, hS176, hk176, hZ176, how176, st176⟩ := ldcS (s := s) (vm0 := s.vm) X173 hx hZ hown (own_w hw 91 rfl) (own_str hw) e173 hS0 (Nat.zero_le _) (g := (mkF m 102 #[oI p0, oI p1, oI p2, oI vv, oI kk, oR b101, oR b133, oR b166, oU, oU, oU, oU] [(.ref b173), (.ref b173), (.ref b166)])) rfl (hb hby at_102) (n := 4) (by decide) (by decide) (by decide) (by decide)
  have ZZ177 : n0 ≤ h176.size := Nat.le_trans ZZ175 E176.1
  have Fc178 := (F_vectors_b173.ext E176)
  have Fc179 := (((((((((((Fc123.keep P127_0).ext E133).keep P137_0).keep P141_0).keep P148_0).keep P153_0).keep P160_0).ext E166).keep P170_0).ext E173).ext E176)
  have nq180 : b101 ≠ b133 := (Nat.ne_of_lt (Nat.lt_of_lt_of_le P127_1.lt (Nat.le_of_eq g133.symm)))
  have nq181 : b101 ≠ el_148 := (Nat.ne_of_lt (Nat.lt_of_lt_of_le (((P127_1.ext E133).keep P137_0 (ninS nq180 nin0)).keep P141_0 nin0).lt P148_1))
  have nq182 : b101 ≠ b166 := (Nat.ne_of_lt (Nat.lt_of_lt_of_le ((((((P127_1.ext E133).keep P137_0 (ninS nq180 nin0)).keep P141_0 nin0).keep P148_0 (ninS nq180 nin0)).keep P153_0 nin0).keep P160_0 (ninS nq180 (ninS nq181 nin0))).lt (Nat.le_of_eq g166.symm)))
  have Fc183 := ((((((((((P127_1.ext E133).keep P137_0 (ninS nq180 nin0)).keep P141_0 nin0).keep P148_0 (ninS nq180 nin0)).keep P153_0 nin0).keep P160_0 (ninS nq180 (ninS nq181 nin0))).ext E166).keep P170_0 (ninS nq182 nin0)).ext E173).ext E176)
  have Fc184 := ((((((((((Fr131.ext E133).keep P137_0 (ninS nq180 nin0)).keep P141_0 nin0).keep P148_0 (ninS nq180 nin0)).keep P153_0 nin0).keep P160_0 (ninS nq180 (ninS nq181 nin0))).ext E166).keep P170_0 (ninS nq182 nin0)).ext E173).ext E176)
  have Fc185 := ((((((((((Fr132.ext E133).keep P137_0 (ninS nq180 nin0)).keep P141_0 nin0).keep P148_0 (ninS nq180 nin0)).keep P153_0 nin0).keep P160_0 (ninS nq180 (ninS nq181 nin0))).ext E166).keep P170_0 (ninS nq182 nin0)).ext E173).ext E176)
  have nq186 : el_115 ≠ b133 := (Nat.ne_of_lt (Nat.lt_of_lt_of_le Vr130.lt (Nat.le_of_eq g133.symm)))
  have nq187 : el_115 ≠ el_148 := (Nat.ne_of_lt (Nat.lt_of_lt_of_le (((Vr130.ext E133).keep P137_0 (ninS nq186 nin0)).keep P141_0 nin0).lt P148_1))
  have nq188 : el_115 ≠ b166 := (Nat.ne_of_lt (Nat.lt_of_lt_of_le ((((((Vr130.ext E133).keep P137_0 (ninS nq186 nin0)).keep P141_0 nin0).keep P148_0 (ninS nq186 nin0)).keep P153_0 nin0).keep P160_0 (ninS nq186 (ninS nq187 nin0))).lt (Nat.le_of_eq g166.symm)))
  have Fc189 := ((((((((((Vr130.ext E133).keep P137_0 (ninS nq186 nin0)).keep P141_0 nin0).keep P148_0 (ninS nq186 nin0)).keep P153_0 nin0).keep P160_0 (ninS nq186 (ninS nq187 nin0))).ext E166).keep P170_0 (ninS nq188 nin0)).ext E173).ext E176)
  have Fc190 := ((((((((((((P115_6.keep P120_0).keep P127_0).ext E133).keep P137_0).keep P141_0).keep P148_0).keep P153_0).keep P160_0).ext E166).keep P170_0).ext E173).ext E176)
  have Fc191 := (((((((((((((P108_6.keep P115_0).keep P120_0).keep P127_0).ext E133).keep P137_0).keep P141_0).keep P148_0).keep P153_0).keep P160_0).ext E166).keep P170_0).ext E173).ext E176)
  have nq192 : b101 ≠ lo_108 := (Nat.ne_of_lt (Nat.lt_of_lt_of_le P104_1.lt P108_1))
  have nq193 : lo_108 ≠ el_115 := (Nat.ne_of_lt (Nat.lt_of_lt_of_le P108_6.lt P115_1))
  have nq194 : lo_108 ≠ b133 := (Nat.ne_of_lt (Nat.lt_of_lt_of_le (((P108_6.keep P115_0).keep P120_0).keep P127_0).lt (Nat.le_of_eq g133.symm)))
  have nq195 : lo_108 ≠ el_148 := (Nat.ne_of_lt (Nat.lt_of_lt_of_le ((((((P108_6.keep P115_0).keep P120_0).keep P127_0).ext E133).keep P137_0).keep P141_0).lt P148_1))
  have nq196 : lo_108 ≠ b166 := (Nat.ne_of_lt (Nat.lt_of_lt_of_le (((((((((P108_6.keep P115_0).keep P120_0).keep P127_0).ext E133).keep P137_0).keep P141_0).keep P148_0).keep P153_0).keep P160_0).lt (Nat.le_of_eq g166.symm)))
  have Fc197 := (((((((((((((P108_7.keep P115_0 (ninS (Ne.symm nq192) nin0)).keep P120_0 nin0).keep P127_0 (ninS (Ne.symm nq192) (ninS nq193 nin0))).ext E133).keep P137_0 (ninS nq194 nin0)).keep P141_0 nin0).keep P148_0 (ninS nq194 nin0)).keep P153_0 nin0).keep P160_0 (ninS nq194 (ninS nq195 nin0))).ext E166).keep P170_0 (ninS nq196 nin0)).ext E173).ext E176)
  have Fc198 := (((((((((((((P108_8.keep P115_0 (ninS (Ne.symm nq192) nin0)).keep P120_0 nin0).keep P127_0 (ninS (Ne.symm nq192) (ninS nq193 nin0))).ext E133).keep P137_0 (ninS nq194 nin0)).keep P141_0 nin0).keep P148_0 (ninS nq194 nin0)).keep P153_0 nin0).keep P160_0 (ninS nq194 (ninS nq195 nin0))).ext E166).keep P170_0 (ninS nq196 nin0)).ext E173).ext E176)
  have Fc199 := (((((((((((((P108_9.keep P115_0 (ninS (Ne.symm nq192) nin0)).keep P120_0 nin0).keep P127_0 (ninS (Ne.symm nq192) (ninS nq193 nin0))).ext E133).keep P137_0 (ninS nq194 nin0)).keep P141_0 nin0).keep P148_0 (ninS nq194 nin0)).keep P153_0 nin0).keep P160_0 (ninS nq194 (ninS nq195 nin0))).ext E166).keep P170_0 (ninS nq196 nin0)).ext E173).ext E176)
  have nq200 : b101 ≠ le_108 := (Nat.ne_of_lt (Nat.lt_of_lt_of_le P104_1.lt P108_2))
  have nq201 : le_108 ≠ el_115 := (Nat.ne_of_lt (Nat.lt_of_lt_of_le P108_11.lt P115_1))
  have nq202 : le_108 ≠ b133 := (Nat.ne_of_lt (Nat.lt_of_lt_of_le (((P108_11.keep P115_0).keep P120_0).keep P127_0).lt (Nat.le_of_eq g133.symm)))
  have nq203 : le_108 ≠ el_148 := (Nat.ne_of_lt (Nat.lt_of_lt_of_le ((((((P108_11.keep P115_0).keep P120_0).keep P127_0).ext E133).keep P137_0).keep P141_0).lt P148_1))
  have nq204 : le_108 ≠ b166 := (Nat.ne_of_lt (Nat.lt_of_lt_of_le (((((((((P108_11.keep P115_0).keep P120_0).keep P127_0).ext E133).keep P137_0).keep P141_0).keep P148_0).keep P153_0).keep P160_0).lt (Nat.le_of_eq g166.symm)))
  have Fc205 := (((((((((((((P108_10.keep P115_0 (ninS (Ne.symm nq200) nin0)).keep P120_0 nin0).keep P127_0 (ninS (Ne.symm nq200) (ninS nq201 nin0))).ext E133).keep P137_0 (ninS nq202 nin0)).keep P141_0 nin0).keep P148_0 (ninS nq202 nin0)).keep P153_0 nin0).keep P160_0 (ninS nq202 (ninS nq203 nin0))).ext E166).keep P170_0 (ninS nq204 nin0)).ext E173).ext E176)
  have Fc206 := (((((((((((((P108_11.keep P115_0).keep P120_0).keep P127_0).ext E133).keep P137_0).keep P141_0).keep P148_0).keep P153_0).keep P160_0).ext E166).keep P170_0).ext E173).ext E176)
  have Fc207 := (((((((((((P120_6.keep P127_0).ext E133).keep P137_0).keep P141_0).keep P148_0).keep P153_0).keep P160_0).ext E166).keep P170_0).ext E173).ext E176)
  have nq208 : b101 ≠ lo_120 := (Nat.ne_of_lt (Nat.lt_of_lt_of_le P115_4.lt P120_1))
  have nq209 : el_115 ≠ lo_120 := (Nat.ne_of_lt (Nat.lt_of_lt_of_le P115_6.lt P120_1))
  have nq210 : lo_120 ≠ b133 := (Nat.ne_of_lt (Nat.lt_of_lt_of_le (P120_6.keep P127_0).lt (Nat.le_of_eq g133.symm)))
  have nq211 : lo_120 ≠ el_148 := (Nat.ne_of_lt (Nat.lt_of_lt_of_le ((((P120_6.keep P127_0).ext E133).keep P137_0).keep P141_0).lt P148_1))
  have nq212 : lo_120 ≠ b166 := (Nat.ne_of_lt (Nat.lt_of_lt_of_le (((((((P120_6.keep P127_0).ext E133).keep P137_0).keep P141_0).keep P148_0).keep P153_0).keep P160_0).lt (Nat.le_of_eq g166.symm)))
  have Fc213 := (((((((((((P120_7.keep P127_0 (ninS (Ne.symm nq208) (ninS (Ne.symm nq209) nin0))).ext E133).keep P137_0 (ninS nq210 nin0)).keep P141_0 nin0).keep P148_0 (ninS nq210 nin0)).keep P153_0 nin0).keep P160_0 (ninS nq210 (ninS nq211 nin0))).ext E166).keep P170_0 (ninS nq212 nin0)).ext E173).ext E176)
  have Fc214 := (((((((((((P120_8.keep P127_0 (ninS (Ne.symm nq208) (ninS (Ne.symm nq209) nin0))).ext E133).keep P137_0 (ninS nq210 nin0)).keep P141_0 nin0).keep P148_0 (ninS nq210 nin0)).keep P153_0 nin0).keep P160_0 (ninS nq210 (ninS nq211 nin0))).ext E166).keep P170_0 (ninS nq212 nin0)).ext E173).ext E176)
  have Fc215 := (((((((((((P120_9.keep P127_0 (ninS (Ne.symm nq208) (ninS (Ne.symm nq209) nin0))).ext E133).keep P137_0 (ninS nq210 nin0)).keep P141_0 nin0).keep P148_0 (ninS nq210 nin0)).keep P153_0 nin0).keep P160_0 (ninS nq210 (ninS nq211 nin0))).ext E166).keep P170_0 (ninS nq212 nin0)).ext E173).ext E176)
  have nq216 : b101 ≠ le_120 := (Nat.ne_of_lt (Nat.lt_of_lt_of_le P115_4.lt P120_2))
  have nq217 : el_115 ≠ le_120 := (Nat.ne_of_lt (Nat.lt_of_lt_of_le P115_6.lt P120_2))
  have nq218 : le_120 ≠ b133 := (Nat.ne_of_lt (Nat.lt_of_lt_of_le (P120_11.keep P127_0).lt (Nat.le_of_eq g133.symm)))
  have nq219 : le_120 ≠ el_148 := (Nat.ne_of_lt (Nat.lt_of_lt_of_le ((((P120_11.keep P127_0).ext E133).keep P137_0).keep P141_0).lt P148_1))
  have nq220 : le_120 ≠ b166 := (Nat.ne_of_lt (Nat.lt_of_lt_of_le (((((((P120_11.keep P127_0).ext E133).keep P137_0).keep P141_0).keep P148_0).keep P153_0).keep P160_0).lt (Nat.le_of_eq g166.symm)))
  have Fc221 := (((((((((((P120_10.keep P127_0 (ninS (Ne.symm nq216) (ninS (Ne.symm nq217) nin0))).ext E133).keep P137_0 (ninS nq218 nin0)).keep P141_0 nin0).keep P148_0 (ninS nq218 nin0)).keep P153_0 nin0).keep P160_0 (ninS nq218 (ninS nq219 nin0))).ext E166).keep P170_0 (ninS nq220 nin0)).ext E173).ext E176)
  have Fc222 := (((((((((((P120_11.keep P127_0).ext E133).keep P137_0).keep P141_0).keep P148_0).keep P153_0).keep P160_0).ext E166).keep P170_0).ext E173).ext E176)
  have Fc223 := (((((((((((((P108_13.keep P115_0).keep P120_0).keep P127_0).ext E133).keep P137_0).keep P141_0).keep P148_0).keep P153_0).keep P160_0).ext E166).keep P170_0).ext E173).ext E176)
  have nq224 : b101 ≠ x0_108 := (Nat.ne_of_lt (Nat.lt_of_lt_of_le P104_1.lt P108_3))
  have nq225 : x0_108 ≠ el_115 := (Nat.ne_of_lt (Nat.lt_of_lt_of_le P108_13.lt P115_1))
  have nq226 : x0_108 ≠ b133 := (Nat.ne_of_lt (Nat.lt_of_lt_of_le (((P108_13.keep P115_0).keep P120_0).keep P127_0).lt (Nat.le_of_eq g133.symm)))
  have nq227 : x0_108 ≠ el_148 := (Nat.ne_of_lt (Nat.lt_of_lt_of_le ((((((P108_13.keep P115_0).keep P120_0).keep P127_0).ext E133).keep P137_0).keep P141_0).lt P148_1))
  have nq228 : x0_108 ≠ b166 := (Nat.ne_of_lt (Nat.lt_of_lt_of_le (((((((((P108_13.keep P115_0).keep P120_0).keep P127_0).ext E133).keep P137_0).keep P141_0).keep P148_0).keep P153_0).keep P160_0).lt (Nat.le_of_eq g166.symm)))
  have Fc229 := (((((((((((((P108_14.keep P115_0 (ninS (Ne.symm nq224) nin0)).keep P120_0 nin0).keep P127_0 (ninS (Ne.symm nq224) (ninS nq225 nin0))).ext E133).keep P137_0 (ninS nq226 nin0)).keep P141_0 nin0).keep P148_0 (ninS nq226 nin0)).keep P153_0 nin0).keep P160_0 (ninS nq226 (ninS nq227 nin0))).ext E166).keep P170_0 (ninS nq228 nin0)).ext E173).ext E176)
  have Fc230 := (((((((((((((P108_15.keep P115_0).keep P120_0).keep P127_0).ext E133).keep P137_0).keep P141_0).keep P148_0).keep P153_0).keep P160_0).ext E166).keep P170_0).ext E173).ext E176)
  have nq231 : b101 ≠ x1_108 := (Nat.ne_of_lt (Nat.lt_of_lt_of_le P104_1.lt P108_4))
  have nq232 : x1_108 ≠ el_115 := (Nat.ne_of_lt (Nat.lt_of_lt_of_le P108_15.lt P115_1))
  have nq233 : x1_108 ≠ b133 := (Nat.ne_of_lt (Nat.lt_of_lt_of_le (((P108_15.keep P115_0).keep P120_0).keep P127_0).lt (Nat.le_of_eq g133.symm)))
  have nq234 : x1_108 ≠ el_148 := (Nat.ne_of_lt (Nat.lt_of_lt_of_le ((((((P108_15.keep P115_0).keep P120_0).keep P127_0).ext E133).keep P137_0).keep P141_0).lt P148_1))
  have nq235 : x1_108 ≠ b166 := (Nat.ne_of_lt (Nat.lt_of_lt_of_le (((((((((P108_15.keep P115_0).keep P120_0).keep P127_0).ext E133).keep P137_0).keep P141_0).keep P148_0).keep P153_0).keep P160_0).lt (Nat.le_of_eq g166.symm)))
  have Fc236 := (((((((((((((P108_16.keep P115_0 (ninS (Ne.symm nq231) nin0)).keep P120_0 nin0).keep P127_0 (ninS (Ne.symm nq231) (ninS nq232 nin0))).ext E133).keep P137_0 (ninS nq233 nin0)).keep P141_0 nin0).keep P148_0 (ninS nq233 nin0)).keep P153_0 nin0).keep P160_0 (ninS nq233 (ninS nq234 nin0))).ext E166).keep P170_0 (ninS nq235 nin0)).ext E173).ext E176)
  have Fc237 := (((((((((((((P108_17.keep P115_0).keep P120_0).keep P127_0).ext E133).keep P137_0).keep P141_0).keep P148_0).keep P153_0).keep P160_0).ext E166).keep P170_0).ext E173).ext E176)
  have nq238 : b101 ≠ x2_108 := (Nat.ne_of_lt (Nat.lt_of_lt_of_le P104_1.lt P108_5))
  have nq239 : x2_108 ≠ el_115 := (Nat.ne_of_lt (Nat.lt_of_lt_of_le P108_17.lt P115_1))
  have nq240 : x2_108 ≠ b133 := (Nat.ne_of_lt (Nat.lt_of_lt_of_le (((P108_17.keep P115_0).keep P120_0).keep P127_0).lt (Nat.le_of_eq g133.symm)))
  have nq241 : x2_108 ≠ el_148 := (Nat.ne_of_lt (Nat.lt_of_lt_of_le ((((((P108_17.keep P115_0).keep P120_0).keep P127_0).ext E133).keep P137_0).keep P141_0).lt P148_1))
  have nq242 : x2_108 ≠ b166 := (Nat.ne_of_lt (Nat.lt_of_lt_of_le (((((((((P108_17.keep P115_0).keep P120_0).keep P127_0).ext E133).keep P137_0).keep P141_0).keep P148_0).keep P153_0).keep P160_0).lt (Nat.le_of_eq g166.symm)))
  have Fc243 := (((((((((((((P108_18.keep P115_0 (ninS (Ne.symm nq238) nin0)).keep P120_0 nin0).keep P127_0 (ninS (Ne.symm nq238) (ninS nq239 nin0))).ext E133).keep P137_0 (ninS nq240 nin0)).keep P141_0 nin0).keep P148_0 (ninS nq240 nin0)).keep P153_0 nin0).keep P160_0 (ninS nq240 (ninS nq241 nin0))).ext E166).keep P170_0 (ninS nq242 nin0)).ext E173).ext E176)
  have Fc244 := (((((((((((P120_13.keep P127_0).ext E133).keep P137_0).keep P141_0).keep P148_0).keep P153_0).keep P160_0).ext E166).keep P170_0).ext E173).ext E176)
  have nq245 : b101 ≠ x0_120 := (Nat.ne_of_lt (Nat.lt_of_lt_of_le P115_4.lt P120_3))
  have nq246 : el_115 ≠ x0_120 := (Nat.ne_of_lt (Nat.lt_of_lt_of_le P115_6.lt P120_3))
  have nq247 : x0_120 ≠ b133 := (Nat.ne_of_lt (Nat.lt_of_lt_of_le (P120_13.keep P127_0).lt (Nat.le_of_eq g133.symm)))
  have nq248 : x0_120 ≠ el_148 := (Nat.ne_of_lt (Nat.lt_of_lt_of_le ((((P120_13.keep P127_0).ext E133).keep P137_0).keep P141_0).lt P148_1))
  have nq249 : x0_120 ≠ b166 := (Nat.ne_of_lt (Nat.lt_of_lt_of_le (((((((P120_13.keep P127_0).ext E133).keep P137_0).keep P141_0).keep P148_0).keep P153_0).keep P160_0).lt (Nat.le_of_eq g166.symm)))
  have Fc250 := (((((((((((P120_14.keep P127_0 (ninS (Ne.symm nq245) (ninS (Ne.symm nq246) nin0))).ext E133).keep P137_0 (ninS nq247 nin0)).keep P141_0 nin0).keep P148_0 (ninS nq247 nin0)).keep P153_0 nin0).keep P160_0 (ninS nq247 (ninS nq248 nin0))).ext E166).keep P170_0 (ninS nq249 nin0)).ext E173).ext E176)
  have Fc251 := (((((((((((P120_15.keep P127_0).ext E133).keep P137_0).keep P141_0).keep P148_0).keep P153_0).keep P160_0).ext E166).keep P170_0).ext E173).ext E176)
  have nq252 : b101 ≠ x1_120 := (Nat.ne_of_lt (Nat.lt_of_lt_of_le P115_4.lt P120_4))
  have nq253 : el_115 ≠ x1_120 := (Nat.ne_of_lt (Nat.lt_of_lt_of_le P115_6.lt P120_4))
  have nq254 : x1_120 ≠ b133 := (Nat.ne_of_lt (Nat.lt_of_lt_of_le (P120_15.keep P127_0).lt (Nat.le_of_eq g133.symm)))
  have nq255 : x1_120 ≠ el_148 := (Nat.ne_of_lt (Nat.lt_of_lt_of_le ((((P120_15.keep P127_0).ext E133).keep P137_0).keep P141_0).lt P148_1))
  have nq256 : x1_120 ≠ b166 := (Nat.ne_of_lt (Nat.lt_of_lt_of_le (((((((P120_15.keep P127_0).ext E133).keep P137_0).keep P141_0).keep P148_0).keep P153_0).keep P160_0).lt (Nat.le_of_eq g166.symm)))
  have Fc257 := (((((((((((P120_16.keep P127_0 (ninS (Ne.symm nq252) (ninS (Ne.symm nq253) nin0))).ext E133).keep P137_0 (ninS nq254 nin0)).keep P141_0 nin0).keep P148_0 (ninS nq254 nin0)).keep P153_0 nin0).keep P160_0 (ninS nq254 (ninS nq255 nin0))).ext E166).keep P170_0 (ninS nq256 nin0)).ext E173).ext E176)
  have Fc258 := (((((((((((P120_17.keep P127_0).ext E133).keep P137_0).keep P141_0).keep P148_0).keep P153_0).keep P160_0).ext E166).keep P170_0).ext E173).ext E176)
  have nq259 : b101 ≠ x2_120 := (Nat.ne_of_lt (Nat.lt_of_lt_of_le P115_4.lt P120_5))
  have nq260 : el_115 ≠ x2_120 := (Nat.ne_of_lt (Nat.lt_of_lt_of_le P115_6.lt P120_5))
  have nq261 : x2_120 ≠ b133 := (Nat.ne_of_lt (Nat.lt_of_lt_of_le (P120_17.keep P127_0).lt (Nat.le_of_eq g133.symm)))
  have nq262 : x2_120 ≠ el_148 := (Nat.ne_of_lt (Nat.lt_of_lt_of_le ((((P120_17.keep P127_0).ext E133).keep P137_0).keep P141_0).lt P148_1))
  have nq263 : x2_120 ≠ b166 := (Nat.ne_of_lt (Nat.lt_of_lt_of_le (((((((P120_17.keep P127_0).ext E133).keep P137_0).keep P141_0).keep P148_0).keep P153_0).keep P160_0).lt (Nat.le_of_eq g166.symm)))
  have Fc264 := (((((((((((P120_18.keep P127_0 (ninS (Ne.symm nq259) (ninS (Ne.symm nq260) nin0))).ext E133).keep P137_0 (ninS nq261 nin0)).keep P141_0 nin0).keep P148_0 (ninS nq261 nin0)).keep P153_0 nin0).keep P160_0 (ninS nq261 (ninS nq262 nin0))).ext E166).keep P170_0 (ninS nq263 nin0)).ext E173).ext E176)
  have Ol265 := (((Ol169.keep P170_0 (allS g_b166 all0)).ext E173).ext E176)
  obtain ⟨_, _, ⟨T266, L266, k266, n266⟩, -, Xr266, hSr266, hgr266, ⟨Lc266, hQ266, l266, y266, z266⟩, st266⟩ := X176.specialBackS hx (y := (⟨kMO, "<init>", "(Ljava/lang/String;Ljava/util/List;)V"⟩ : MethodName)) rfl how176 (mvT hZ176 (own_w hw 99 rfl)) (mvT hZ176 (own_w hw 100 rfl)) (mvT hZ176 (own_w hw 101 rfl)) (by decide) (backOfS (W := 2) (rmm15 l Z a0 hw [] b173 b176 b101 .null .null el_115 lo_108 lo_120 le_108 le_120 x0_108 x1_108 x2_108 x0_120 x1_120 x2_120 kel_115 kle_108 kle_120 (own_val p0 p1 (0 : Int32)) (own_val p0 p1 ((0 : Int32) + (1 : Int32))) (own_val p0 p1 ((0 : Int32) + (2 : Int32))) (own_val p0 p1 (3 : Int32)) (own_val p0 p1 ((3 : Int32) + (1 : Int32))) (own_val p0 p1 ((3 : Int32) + (2 : Int32))) mr h176 n0 ZZ177 (A173.ext E176) g_b173 (F_name_b173.ext E176) Fc178 Fc179 Fc183 Fc184 Fc185 Fc189 Fc190 Fc191 Fc197 Fc198 Fc199 Fc205 Fc206 Fc207 Fc213 Fc214 Fc215 Fc221 Fc222 Fc223 Fc229 Fc230 Fc236 Fc237 Fc243 Fc244 Fc250 Fc251 Fc257 Fc258 Fc264 Ol265 M_mr (own_vnn _ _ _) (own_vfi _ _ _) (own_vnn _ _ _) (own_vfi _ _ _) (own_vnn _ _ _) (own_vfi _ _ _) (own_vnn _ _ _) (own_vfi _ _ _) (own_vnn _ _ _) (own_vfi _ _ _) (own_vnn _ _ _) (own_vfi _ _ _)) hZ176 (own_w hw 101 rfl) (own_w hw 90 rfl) (by decide) (by decide)) (g := (mkF m 106 #[oI p0, oI p1, oI p2, oI vv, oI kk, oR b101, oR b133, oR b166, oU, oU, oU, oU] [(.ref b101), (.ref b176), (.ref b173), (.ref b173), (.ref b166)])) rfl (by rw [hml]; rfl) (Steps.refl _) (a := b173) (argsL := [(.ref b176), (.ref b101)]) (rest := [(.ref b173), (.ref b166)]) (lenOf pd33 rfl) rfl (by show 2 * 0 + _ ≤ _; exact Nat.le_of_eq rfl) (hb hby at_106) (fun _ _ => ⟨rfl, e176, (by decide : 28 + 15 ≤ _), (by decide : 103 + 57 ≤ _)⟩)
  dsimp only [Pt.U, Pt.locs, Pt.cells, Pt.slots] at Xr266 l266 y266 z266 st266 hQ266 hSr266 hgr266
  subst l266 y266 z266
  obtain ⟨X266, hS266⟩ := Stand.againW Xr266 hS176 hSr266 (Nat.le_trans (by rw [e176]; exact hk176) hgr266)
  have hZ266 : Z.Warmed39 (s.setVm T266.vm).vm := State.Warmed39.trans (t := s.setVm T176.vm) hZ176 hSr266.1
  have how266 : (s.setVm T266.vm).vm.findClass "com/example/matchwright/matchwright/core/InstanceVectorsScorePinLaw" = some m.cls := by rw [show (s.setVm T266.vm).vm = T266.vm from rfl, hSr266.1.alike.findClass]; exact how176
  obtain ⟨LL_266, NN0_266, NN1_266, A0_266, A1_266, kA0_266, kA1_266, rfl, Nq266, P266_0, P266_1, P266_2, P266_3, P266_4, P266_5, P266_6, P266_7, P266_8, P266_9, P266_10, P266_11, P266_12, P266_13, P266_14, P266_15, P266_16, P266_17, P266_18, P266_19, P266_20⟩ := hQ266
  have N266 := Fr.app N170 Nq266
  have g_LL_266 : n0 ≤ LL_266 := Nat.le_trans ZZ177 P266_1
  have g_NN0_266 : n0 ≤ NN0_266 := Nat.le_trans ZZ177 P266_2
  have g_NN1_266 : n0 ≤ NN1_266 := Nat.le_trans ZZ177 P266_3
  have g_A0_266 : n0 ≤ A0_266 := Nat.le_trans ZZ177 P266_4
  have g_A1_266 : n0 ≤ A1_266 := Nat.le_trans ZZ177 P266_5
  have ZZ267 : n0 ≤ T266.heap.size := Nat.le_trans ZZ177 P266_0.1
  have Fc268 := ((((A166.keep P170_0).ext E173).ext E176).keep P266_0)
  have nq269 : b166 ≠ b173 := (Nat.ne_of_lt (Nat.lt_of_lt_of_le P170_1.lt (Nat.le_of_eq g173.symm)))
  have Fc270 := (((P170_1.ext E173).ext E176).keep P266_0 (ninS nq269 nin0))
  have Fc271 := (((P170_2.ext E173).ext E176).keep P266_0 (ninS nq269 nin0))
  have Fc272 := (((P170_3.ext E173).ext E176).keep P266_0 (ninS nq269 nin0))
  have Ol273 := (Ol265.keep P266_0 (allS g_b173 all0))
  have Fc274 := ((A173.ext E176).keep P266_0)
  obtain ⟨_, T275, L275, X275, hQ275, st275⟩ := own_cI X266 hx hZ266 hw how266 (b := b166) (W := 0) (rm_a1g l Z a0 hw [] b166 b173 (0 : Int32) de kde T266.heap n0 ZZ267 Fc268 g_b166 Fc270 Fc271 Fc272 Ol273 S_DEFAULTCAPACITY_EMPTY_ELEMENTDATA V_de E_de (Ins.of_exa Fc274 (own_w hw 321 rfl))) (by decide) (by decide) (by decide) 52 rfl 53 rfl 54 rfl 55 rfl 56 rfl 57 rfl 58 rfl 59 rfl 60 rfl 2 rfl rfl Fc268 (g := (mkF m 109 #[oI p0, oI p1, oI p2, oI vv, oI kk, oR b101, oR b133, oR b166, oU, oU, oU, oU] [(.ref b173), (.ref b166)])) rfl (by rw [hml]; rfl) (argsL := [(.ref b173)]) (rest := []) (lenOf pd25 rfl) rfl (Nat.le_of_eq rfl) (hb hby at_109) rfl (cN := 44) rfl (by decide) (sN := 170) rfl (by decide)
  obtain ⟨el_275, kel_275, rfl, Nq275, P275_0, P275_1, P275_2, P275_3, P275_4, P275_5, P275_6, P275_7⟩ := hQ275
  have N275 := Fr.app N266 Nq275
  have g_el_275 : n0 ≤ el_275 := Nat.le_trans ZZ267 P275_1
  have SK276 := Nat.le_trans (Nat.le_refl _) P275_0.1
  have ZZ277 : n0 ≤ T275.heap.size := Nat.le_trans ZZ267 P275_0.1
  have Fr278 : Fld Z T275.heap b166 kABL "modCount" "I" (.int 1) := (own_fi (by decide) P275_4)
  obtain ⟨T279, h279, X279, e279, E279, A279, D279, -, st279⟩ := newO X275 hx hZ266 how266 (own_w hw 88 rfl) (own_w hw 89 rfl) (own_w hw 90 rfl) rfl (g := (mkF m 117 #[oI p0, oI p1, oI p2, oI vv, oI kk, oR b101, oR b133, oR b166, oU, oU, oU, oU] [(.ref b166)])) rfl (hb hby at_117) (by decide) (by decide)
  obtain ⟨b279, g279⟩ : ∃ z, z = T275.heap.size := ⟨_, rfl⟩
  rw [← g279] at A279 D279 st279
  have g_b279 : n0 ≤ b279 := Nat.le_trans ZZ277 (Nat.le_of_eq g279.symm)
  have SK280 := Nat.le_trans SK276 E279.1
  have ZZ281 : n0 ≤ h279.size := Nat.le_trans ZZ277 E279.1
  have F_name_b279 : Fld Z h279 b279 kMO "name" "Ljava/lang/String;" .null := D279 (Or.inr (own_w hw 318 rfl)) (ty := (.object "java/lang/String")) (by decide)
  have F_vectors_b279 : Fld Z h279 b279 kMO "vectors" "Ljava/util/List;" .null := D279 (Or.inr (own_w hw 320 rfl)) (ty := (.object "java/util/List")) (by decide)
  obtain ⟨b282, T282, h282, k282, X282, e282, E282, hS282, hk282, hZ282, how282, st282⟩ := ldcS (s := s) (vm0 := T266.vm) X279 hx hZ266 how266 (own_w hw 322 rfl) (own_str hw) e279 hS266 SK280 (g := (mkF m 121 #[oI p0, oI p1, oI p2, oI vv, oI kk, oR b101, oR b133, oR b166, oU, oU, oU, oU] [(.ref b279), (.ref b279), (.ref b166)])) rfl (hb hby at_121) (n := 4) (by decide) (by decide) (by decide) (by decide)
  have ZZ283 : n0 ≤ h282.size := Nat.le_trans ZZ281 E282.1
  have Fc284 := (F_vectors_b279.ext E282)
  have Fc285 := (((((((((Fc156.keep P160_0).ext E166).keep P170_0).ext E173).ext E176).keep P266_0).keep P275_0).ext E279).ext E282)
  have nq286 : b133 ≠ b166 := (Nat.ne_of_lt (Nat.lt_of_lt_of_le P160_1.lt (Nat.le_of_eq g166.symm)))
  have nq287 : b133 ≠ b173 := (Nat.ne_of_lt (Nat.lt_of_lt_of_le ((P160_1.ext E166).keep P170_0 (ninS nq286 nin0)).lt (Nat.le_of_eq g173.symm)))
  have Fc288 := ((((((((P160_1.ext E166).keep P170_0 (ninS nq286 nin0)).ext E173).ext E176).keep P266_0 (ninS nq287 nin0)).keep P275_0 (ninS nq286 nin0)).ext E279).ext E282)
  have Fc289 := ((((((((Fr164.ext E166).keep P170_0 (ninS nq286 nin0)).ext E173).ext E176).keep P266_0 (ninS nq287 nin0)).keep P275_0 (ninS nq286 nin0)).ext E279).ext E282)
  have Fc290 := ((((((((Fr165.ext E166).keep P170_0 (ninS nq286 nin0)).ext E173).ext E176).keep P266_0 (ninS nq287 nin0)).keep P275_0 (ninS nq286 nin0)).ext E279).ext E282)
  have nq291 : el_148 ≠ b166 := (Nat.ne_of_lt (Nat.lt_of_lt_of_le Vr163.lt (Nat.le_of_eq g166.symm)))
  have nq292 : el_148 ≠ b173 := (Nat.ne_of_lt (Nat.lt_of_lt_of_le ((Vr163.ext E166).keep P170_0 (ninS nq291 nin0)).lt (Nat.le_of_eq g173.symm)))
  have Fc293 := ((((((((Vr163.ext E166).keep P170_0 (ninS nq291 nin0)).ext E173).ext E176).keep P266_0 (ninS nq292 nin0)).keep P275_0 (ninS nq291 nin0)).ext E279).ext E282)
  have Fc294 := ((((((((((P148_6.keep P153_0).keep P160_0).ext E166).keep P170_0).ext E173).ext E176).keep P266_0).keep P275_0).ext E279).ext E282)
  have Fc295 := (((((((((((P141_6.keep P148_0).keep P153_0).keep P160_0).ext E166).keep P170_0).ext E173).ext E176).keep P266_0).keep P275_0).ext E279).ext E282)
  have nq296 : b133 ≠ lo_141 := (Nat.ne_of_lt (Nat.lt_of_lt_of_le P137_1.lt P141_1))
  have nq297 : lo_141 ≠ el_148 := (Nat.ne_of_lt (Nat.lt_of_lt_of_le P141_6.lt P148_1))
  have nq298 : lo_141 ≠ b166 := (Nat.ne_of_lt (Nat.lt_of_lt_of_le (((P141_6.keep P148_0).keep P153_0).keep P160_0).lt (Nat.le_of_eq g166.symm)))
  have nq299 : lo_141 ≠ b173 := (Nat.ne_of_lt (Nat.lt_of_lt_of_le (((((P141_6.keep P148_0).keep P153_0).keep P160_0).ext E166).keep P170_0).lt (Nat.le_of_eq g173.symm)))
  have Fc300 := (((((((((((P141_7.keep P148_0 (ninS (Ne.symm nq296) nin0)).keep P153_0 nin0).keep P160_0 (ninS (Ne.symm nq296) (ninS nq297 nin0))).ext E166).keep P170_0 (ninS nq298 nin0)).ext E173).ext E176).keep P266_0 (ninS nq299 nin0)).keep P275_0 (ninS nq298 nin0)).ext E279).ext E282)
  have Fc301 := (((((((((((P141_8.keep P148_0 (ninS (Ne.symm nq296) nin0)).keep P153_0 nin0).keep P160_0 (ninS (Ne.symm nq296) (ninS nq297 nin0))).ext E166).keep P170_0 (ninS nq298 nin0)).ext E173).ext E176).keep P266_0 (ninS nq299 nin0)).keep P275_0 (ninS nq298 nin0)).ext E279).ext E282)
  have Fc302 := (((((((((((P141_9.keep P148_0 (ninS (Ne.symm nq296) nin0)).keep P153_0 nin0).keep P160_0 (ninS (Ne.symm nq296) (ninS nq297 nin0))).ext E166).keep P170_0 (ninS nq298 nin0)).ext E173).ext E176).keep P266_0 (ninS nq299 nin0)).keep P275_0 (ninS nq298 nin0)).ext E279).ext E282)
  have nq303 : b133 ≠ le_141 := (Nat.ne_of_lt (Nat.lt_of_lt_of_le P137_1.lt P141_2))
  have nq304 : le_141 ≠ el_148 := (Nat.ne_of_lt (Nat.lt_of_lt_of_le P141_11.lt P148_1))
  have nq305 : le_141 ≠ b166 := (Nat.ne_of_lt (Nat.lt_of_lt_of_le (((P141_11.keep P148_0).keep P153_0).keep P160_0).lt (Nat.le_of_eq g166.symm)))
  have nq306 : le_141 ≠ b173 := (Nat.ne_of_lt (Nat.lt_of_lt_of_le (((((P141_11.keep P148_0).keep P153_0).keep P160_0).ext E166).keep P170_0).lt (Nat.le_of_eq g173.symm)))
  have Fc307 := (((((((((((P141_10.keep P148_0 (ninS (Ne.symm nq303) nin0)).keep P153_0 nin0).keep P160_0 (ninS (Ne.symm nq303) (ninS nq304 nin0))).ext E166).keep P170_0 (ninS nq305 nin0)).ext E173).ext E176).keep P266_0 (ninS nq306 nin0)).keep P275_0 (ninS nq305 nin0)).ext E279).ext E282)
  have Fc308 := (((((((((((P141_11.keep P148_0).keep P153_0).keep P160_0).ext E166).keep P170_0).ext E173).ext E176).keep P266_0).keep P275_0).ext E279).ext E282)
  have Fc309 := (((((((((P153_6.keep P160_0).ext E166).keep P170_0).ext E173).ext E176).keep P266_0).keep P275_0).ext E279).ext E282)
  have nq310 : b133 ≠ lo_153 := (Nat.ne_of_lt (Nat.lt_of_lt_of_le P148_4.lt P153_1))
  have nq311 : el_148 ≠ lo_153 := (Nat.ne_of_lt (Nat.lt_of_lt_of_le P148_6.lt P153_1))
  have nq312 : lo_153 ≠ b166 := (Nat.ne_of_lt (Nat.lt_of_lt_of_le (P153_6.keep P160_0).lt (Nat.le_of_eq g166.symm)))
  have nq313 : lo_153 ≠ b173 := (Nat.ne_of_lt (Nat.lt_of_lt_of_le (((P153_6.keep P160_0).ext E166).keep P170_0).lt (Nat.le_of_eq g173.symm)))
  have Fc314 := (((((((((P153_7.keep P160_0 (ninS (Ne.symm nq310) (ninS (Ne.symm nq311) nin0))).ext E166).keep P170_0 (ninS nq312 nin0)).ext E173).ext E176).keep P266_0 (ninS nq313 nin0)).keep P275_0 (ninS nq312 nin0)).ext E279).ext E282)
  have Fc315 := (((((((((P153_8.keep P160_0 (ninS (Ne.symm nq310) (ninS (Ne.symm nq311) nin0))).ext E166).keep P170_0 (ninS nq312 nin0)).ext E173).ext E176).keep P266_0 (ninS nq313 nin0)).keep P275_0 (ninS nq312 nin0)).ext E279).ext E282)
  have Fc316 := (((((((((P153_9.keep P160_0 (ninS (Ne.symm nq310) (ninS (Ne.symm nq311) nin0))).ext E166).keep P170_0 (ninS nq312 nin0)).ext E173).ext E176).keep P266_0 (ninS nq313 nin0)).keep P275_0 (ninS nq312 nin0)).ext E279).ext E282)
  have nq317 : b133 ≠ le_153 := (Nat.ne_of_lt (Nat.lt_of_lt_of_le P148_4.lt P153_2))
  have nq318 : el_148 ≠ le_153 := (Nat.ne_of_lt (Nat.lt_of_lt_of_le P148_6.lt P153_2))
  have nq319 : le_153 ≠ b166 := (Nat.ne_of_lt (Nat.lt_of_lt_of_le (P153_11.keep P160_0).lt (Nat.le_of_eq g166.symm)))
  have nq320 : le_153 ≠ b173 := (Nat.ne_of_lt (Nat.lt_of_lt_of_le (((P153_11.keep P160_0).ext E166).keep P170_0).lt (Nat.le_of_eq g173.symm)))
  have Fc321 := (((((((((P153_10.keep P160_0 (ninS (Ne.symm nq317) (ninS (Ne.symm nq318) nin0))).ext E166).keep P170_0 (ninS nq319 nin0)).ext E173).ext E176).keep P266_0 (ninS nq320 nin0)).keep P275_0 (ninS nq319 nin0)).ext E279).ext E282)
  have Fc322 := (((((((((P153_11.keep P160_0).ext E166).keep P170_0).ext E173).ext E176).keep P266_0).keep P275_0).ext E279).ext E282)
  have Fc323 := (((((((((((P141_13.keep P148_0).keep P153_0).keep P160_0).ext E166).keep P170_0).ext E173).ext E176).keep P266_0).keep P275_0).ext E279).ext E282)
  have nq324 : b133 ≠ x0_141 := (Nat.ne_of_lt (Nat.lt_of_lt_of_le P137_1.lt P141_3))
  have nq325 : x0_141 ≠ el_148 := (Nat.ne_of_lt (Nat.lt_of_lt_of_le P141_13.lt P148_1))
  have nq326 : x0_141 ≠ b166 := (Nat.ne_of_lt (Nat.lt_of_lt_of_le (((P141_13.keep P148_0).keep P153_0).keep P160_0).lt (Nat.le_of_eq g166.symm)))
  have nq327 : x0_141 ≠ b173 := (Nat.ne_of_lt (Nat.lt_of_lt_of_le (((((P141_13.keep P148_0).keep P153_0).keep P160_0).ext E166).keep P170_0).lt (Nat.le_of_eq g173.symm)))
  have Fc328 := (((((((((((P141_14.keep P148_0 (ninS (Ne.symm nq324) nin0)).keep P153_0 nin0).keep P160_0 (ninS (Ne.symm nq324) (ninS nq325 nin0))).ext E166).keep P170_0 (ninS nq326 nin0)).ext E173).ext E176).keep P266_0 (ninS nq327 nin0)).keep P275_0 (ninS nq326 nin0)).ext E279).ext E282)
  have Fc329 := (((((((((((P141_15.keep P148_0).keep P153_0).keep P160_0).ext E166).keep P170_0).ext E173).ext E176).keep P266_0).keep P275_0).ext E279).ext E282)
  have nq330 : b133 ≠ x1_141 := (Nat.ne_of_lt (Nat.lt_of_lt_of_le P137_1.lt P141_4))
  have nq331 : x1_141 ≠ el_148 := (Nat.ne_of_lt (Nat.lt_of_lt_of_le P141_15.lt P148_1))
  have nq332 : x1_141 ≠ b166 := (Nat.ne_of_lt (Nat.lt_of_lt_of_le (((P141_15.keep P148_0).keep P153_0).keep P160_0).lt (Nat.le_of_eq g166.symm)))
  have nq333 : x1_141 ≠ b173 := (Nat.ne_of_lt (Nat.lt_of_lt_of_le (((((P141_15.keep P148_0).keep P153_0).keep P160_0).ext E166).keep P170_0).lt (Nat.le_of_eq g173.symm)))
  have Fc334 := (((((((((((P141_16.keep P148_0 (ninS (Ne.symm nq330) nin0)).keep P153_0 nin0).keep P160_0 (ninS (Ne.symm nq330) (ninS nq331 nin0))).ext E166).keep P170_0 (ninS nq332 nin0)).ext E173).ext E176).keep P266_0 (ninS nq333 nin0)).keep P275_0 (ninS nq332 nin0)).ext E279).ext E282)
  have Fc335 := (((((((((((P141_17.keep P148_0).keep P153_0).keep P160_0).ext E166).keep P170_0).ext E173).ext E176).keep P266_0).keep P275_0).ext E279).ext E282)
  have nq336 : b133 ≠ x2_141 := (Nat.ne_of_lt (Nat.lt_of_lt_of_le P137_1.lt P141_5))
  have nq337 : x2_141 ≠ el_148 := (Nat.ne_of_lt (Nat.lt_of_lt_of_le P141_17.lt P148_1))
  have nq338 : x2_141 ≠ b166 := (Nat.ne_of_lt (Nat.lt_of_lt_of_le (((P141_17.keep P148_0).keep P153_0).keep P160_0).lt (Nat.le_of_eq g166.symm)))
  have nq339 : x2_141 ≠ b173 := (Nat.ne_of_lt (Nat.lt_of_lt_of_le (((((P141_17.keep P148_0).keep P153_0).keep P160_0).ext E166).keep P170_0).lt (Nat.le_of_eq g173.symm)))
  have Fc340 := (((((((((((P141_18.keep P148_0 (ninS (Ne.symm nq336) nin0)).keep P153_0 nin0).keep P160_0 (ninS (Ne.symm nq336) (ninS nq337 nin0))).ext E166).keep P170_0 (ninS nq338 nin0)).ext E173).ext E176).keep P266_0 (ninS nq339 nin0)).keep P275_0 (ninS nq338 nin0)).ext E279).ext E282)
  have Fc341 := (((((((((P153_13.keep P160_0).ext E166).keep P170_0).ext E173).ext E176).keep P266_0).keep P275_0).ext E279).ext E282)
  have nq342 : b133 ≠ x0_153 := (Nat.ne_of_lt (Nat.lt_of_lt_of_le P148_4.lt P153_3))
  have nq343 : el_148 ≠ x0_153 := (Nat.ne_of_lt (Nat.lt_of_lt_of_le P148_6.lt P153_3))
  have nq344 : x0_153 ≠ b166 := (Nat.ne_of_lt (Nat.lt_of_lt_of_le (P153_13.keep P160_0).lt (Nat.le_of_eq g166.symm)))
  have nq345 : x0_153 ≠ b173 := (Nat.ne_of_lt (Nat.lt_of_lt_of_le (((P153_13.keep P160_0).ext E166).keep P170_0).lt (Nat.le_of_eq g173.symm)))
  have Fc346 := (((((((((P153_14.keep P160_0 (ninS (Ne.symm nq342) (ninS (Ne.symm nq343) nin0))).ext E166).keep P170_0 (ninS nq344 nin0)).ext E173).ext E176).keep P266_0 (ninS nq345 nin0)).keep P275_0 (ninS nq344 nin0)).ext E279).ext E282)
  have Fc347 := (((((((((P153_15.keep P160_0).ext E166).keep P170_0).ext E173).ext E176).keep P266_0).keep P275_0).ext E279).ext E282)
  have nq348 : b133 ≠ x1_153 := (Nat.ne_of_lt (Nat.lt_of_lt_of_le P148_4.lt P153_4))
  have nq349 : el_148 ≠ x1_153 := (Nat.ne_of_lt (Nat.lt_of_lt_of_le P148_6.lt P153_4))
  have nq350 : x1_153 ≠ b166 := (Nat.ne_of_lt (Nat.lt_of_lt_of_le (P153_15.keep P160_0).lt (Nat.le_of_eq g166.symm)))
  have nq351 : x1_153 ≠ b173 := (Nat.ne_of_lt (Nat.lt_of_lt_of_le (((P153_15.keep P160_0).ext E166).keep P170_0).lt (Nat.le_of_eq g173.symm)))
  have Fc352 := (((((((((P153_16.keep P160_0 (ninS (Ne.symm nq348) (ninS (Ne.symm nq349) nin0))).ext E166).keep P170_0 (ninS nq350 nin0)).ext E173).ext E176).keep P266_0 (ninS nq351 nin0)).keep P275_0 (ninS nq350 nin0)).ext E279).ext E282)
  have Fc353 := (((((((((P153_17.keep P160_0).ext E166).keep P170_0).ext E173).ext E176).keep P266_0).keep P275_0).ext E279).ext E282)
  have nq354 : b133 ≠ x2_153 := (Nat.ne_of_lt (Nat.lt_of_lt_of_le P148_4.lt P153_5))
  have nq355 : el_148 ≠ x2_153 := (Nat.ne_of_lt (Nat.lt_of_lt_of_le P148_6.lt P153_5))
  have nq356 : x2_153 ≠ b166 := (Nat.ne_of_lt (Nat.lt_of_lt_of_le (P153_17.keep P160_0).lt (Nat.le_of_eq g166.symm)))
  have nq357 : x2_153 ≠ b173 := (Nat.ne_of_lt (Nat.lt_of_lt_of_le (((P153_17.keep P160_0).ext E166).keep P170_0).lt (Nat.le_of_eq g173.symm)))
  have Fc358 := (((((((((P153_18.keep P160_0 (ninS (Ne.symm nq354) (ninS (Ne.symm nq355) nin0))).ext E166).keep P170_0 (ninS nq356 nin0)).ext E173).ext E176).keep P266_0 (ninS nq357 nin0)).keep P275_0 (ninS nq356 nin0)).ext E279).ext E282)
  have Ol359 := (((Ol273.keep P275_0 (allS g_b166 all0)).ext E279).ext E282)
  obtain ⟨_, _, ⟨T360, L360, k360, n360⟩, -, Xr360, hSr360, hgr360, ⟨Lc360, hQ360, l360, y360, z360⟩, st360⟩ := X282.specialBackS hx (y := (⟨kMO, "<init>", "(Ljava/lang/String;Ljava/util/List;)V"⟩ : MethodName)) rfl how282 (mvT hZ282 (own_w hw 99 rfl)) (mvT hZ282 (own_w hw 100 rfl)) (mvT hZ282 (own_w hw 101 rfl)) (by decide) (backOfS (W := 2) (rmm15 l Z a0 hw [] b279 b282 b133 .null .null el_148 lo_141 lo_153 le_141 le_153 x0_141 x1_141 x2_141 x0_153 x1_153 x2_153 kel_148 kle_141 kle_153 (own_val p0 p1 (6 : Int32)) (own_val p0 p1 ((6 : Int32) + (1 : Int32))) (own_val p0 p1 ((6 : Int32) + (2 : Int32))) (own_val p0 p1 (9 : Int32)) (own_val p0 p1 ((9 : Int32) + (1 : Int32))) (own_val p0 p1 ((9 : Int32) + (2 : Int32))) mr h282 n0 ZZ283 (A279.ext E282) g_b279 (F_name_b279.ext E282) Fc284 Fc285 Fc288 Fc289 Fc290 Fc293 Fc294 Fc295 Fc300 Fc301 Fc302 Fc307 Fc308 Fc309 Fc314 Fc315 Fc316 Fc321 Fc322 Fc323 Fc328 Fc329 Fc334 Fc335 Fc340 Fc341 Fc346 Fc347 Fc352 Fc353 Fc358 Ol359 M_mr (own_vnn _ _ _) (own_vfi _ _ _) (own_vnn _ _ _) (own_vfi _ _ _) (own_vnn _ _ _) (own_vfi _ _ _) (own_vnn _ _ _) (own_vfi _ _ _) (own_vnn _ _ _) (own_vfi _ _ _) (own_vnn _ _ _) (own_vfi _ _ _)) hZ282 (own_w hw 101 rfl) (own_w hw 90 rfl) (by decide) (by decide)) (g := (mkF m 125 #[oI p0, oI p1, oI p2, oI vv, oI kk, oR b101, oR b133, oR b166, oU, oU, oU, oU] [(.ref b133), (.ref b282), (.ref b279), (.ref b279), (.ref b166)])) rfl (by rw [hml]; rfl) (Steps.refl _) (a := b279) (argsL := [(.ref b282), (.ref b133)]) (rest := [(.ref b279), (.ref b166)]) (lenOf pd33 rfl) rfl (by show 2 * 0 + _ ≤ _; exact Nat.le_of_eq rfl) (hb hby at_125) (fun _ _ => ⟨rfl, e282, (by decide : 47 + 15 ≤ _), (by decide : 180 + 57 ≤ _)⟩)
  dsimp only [Pt.U, Pt.locs, Pt.cells, Pt.slots] at Xr360 l360 y360 z360 st360 hQ360 hSr360 hgr360
  subst l360 y360 z360
  obtain ⟨X360, hS360⟩ := Stand.againW Xr360 hS282 hSr360 (Nat.le_trans (by rw [e282]; exact hk282) hgr360)
  have hZ360 : Z.Warmed39 (s.setVm T360.vm).vm := State.Warmed39.trans (t := s.setVm T282.vm) hZ282 hSr360.1
  have how360 : (s.setVm T360.vm).vm.findClass "com/example/matchwright/matchwright/core/InstanceVectorsScorePinLaw" = some m.cls := by rw [show (s.setVm T360.vm).vm = T360.vm from rfl, hSr360.1.alike.findClass]; exact how282
  obtain ⟨LL_360, NN0_360, NN1_360, A0_360, A1_360, kA0_360, kA1_360, rfl, Nq360, P360_0, P360_1, P360_2, P360_3, P360_4, P360_5, P360_6, P360_7, P360_8, P360_9, P360_10, P360_11, P360_12, P360_13, P360_14, P360_15, P360_16, P360_17, P360_18, P360_19, P360_20⟩ := hQ360
  have N360 := Fr.app N275 Nq360
  have g_LL_360 : n0 ≤ LL_360 := Nat.le_trans ZZ283 P360_1
  have g_NN0_360 : n0 ≤ NN0_360 := Nat.le_trans ZZ283 P360_2
  have g_NN1_360 : n0 ≤ NN1_360 := Nat.le_trans ZZ283 P360_3
  have g_A0_360 : n0 ≤ A0_360 := Nat.le_trans ZZ283 P360_4
  have g_A1_360 : n0 ≤ A1_360 := Nat.le_trans ZZ283 P360_5
  have ZZ361 : n0 ≤ T360.heap.size := Nat.le_trans ZZ283 P360_0.1
  have Fc362 := ((((Fc268.keep P275_0).ext E279).ext E282).keep P360_0)
  have nq363 : b166 ≠ b279 := (Nat.ne_of_lt (Nat.lt_of_lt_of_le P275_2.lt (Nat.le_of_eq g279.symm)))
  have Fc364 := (((P275_2.ext E279).ext E282).keep P360_0 (ninS nq363 nin0))
  have Fc365 := (((P275_3.ext E279).ext E282).keep P360_0 (ninS nq363 nin0))
  have Fc366 := (((Fr278.ext E279).ext E282).keep P360_0 (ninS nq363 nin0))
  have nq367 : el_275 ≠ b279 := (Nat.ne_of_lt (Nat.lt_of_lt_of_le P275_6.lt (Nat.le_of_eq g279.symm)))
  have Fc368 := (((P275_5.ext E279).ext E282).keep P360_0 (ninS nq367 nin0))
  have Fc369 := (((P275_6.ext E279).ext E282).keep P360_0)
  have Fc370 := ((A279.ext E282).keep P360_0)
  obtain ⟨_, T371, L371, X371, hQ371, st371⟩ := own_cI X360 hx hZ360 hw how360 (b := b166) (W := 0) (rm_a1n l Z a0 hw [] b166 b279 (1 : Int32) el_275 kel_275 (1 : Int32) (10 : Int32) 1 [(.ref b173), .null, .null, .null] T360.heap n0 ZZ361 Fc362 g_b166 g_el_275 Fc364 Fc365 Fc366 Fc368 Fc369 P275_7 (Ins.of_exa Fc370 (own_w hw 321 rfl)) (by decide) (⟨by decide, by decide⟩) (by decide) (Nat.le_of_ble_eq_true rfl)) (by decide) (by decide) (by decide) 52 rfl 53 rfl 54 rfl 55 rfl 56 rfl 57 rfl 58 rfl 59 rfl 60 rfl 2 rfl rfl Fc362 (g := (mkF m 128 #[oI p0, oI p1, oI p2, oI vv, oI kk, oR b101, oR b133, oR b166, oU, oU, oU, oU] [(.ref b279), (.ref b166)])) rfl (by rw [hml]; rfl) (argsL := [(.ref b279)]) (rest := []) (lenOf pd25 rfl) rfl (Nat.le_of_eq rfl) (hb hby at_128) rfl (cN := 62) rfl (by decide) (sN := 237) rfl (by decide)
  obtain ⟨rfl, Nq371, P371_0, P371_1, P371_2, P371_3, P371_4⟩ := hQ371
  have N371 := Fr.app N360 Nq371
  have SK372 := Nat.le_trans (Nat.le_refl _) P371_0.1
  have ZZ373 : n0 ≤ T371.heap.size := Nat.le_trans ZZ361 P371_0.1
  have Vr374 : Arv Z T371.heap el_275 kel_275 (.object kOB) (10 : Int32) [(.ref b173), (.ref b279), .null, .null] .null := P371_4
  have Fr375 : Fld Z T371.heap b166 kAL "size" "I" (.int 2) := (own_fi (by decide) P371_2)
  have Fr376 : Fld Z T371.heap b166 kABL "modCount" "I" (.int 2) := (own_fi (by decide) P371_3)
  obtain ⟨T377, h377, X377, e377, E377, A377, D377, -, st377⟩ := newO X371 hx hZ360 how360 (own_w hw 323 rfl) (own_w hw 324 rfl) (own_w hw 325 rfl) rfl (g := (mkF m 134 #[oI p0, oI p1, oI p2, oI vv, oI kk, oR b101, oR b133, oR b166, oU, oU, oU, oU] [])) rfl (hb hby at_134) (by decide) (by decide)
  obtain ⟨b377, g377⟩ : ∃ z, z = T371.heap.size := ⟨_, rfl⟩
  rw [← g377] at A377 D377 st377
  have g_b377 : n0 ≤ b377 := Nat.le_trans ZZ373 (Nat.le_of_eq g377.symm)
  have SK378 := Nat.le_trans SK372 E377.1
  have ZZ379 : n0 ≤ h377.size := Nat.le_trans ZZ373 E377.1
  have F_count_b377 : Fld Z h377 b377 kIV "count" "I" (.int 0) := D377 (Or.inr (own_w hw 332 rfl)) (ty := .int) (by decide)
  have F_instances_b377 : Fld Z h377 b377 kIV "instances" "I" (.int 0) := D377 (Or.inr (own_w hw 350 rfl)) (ty := .int) (by decide)
  have F_dimension_b377 : Fld Z h377 b377 kIV "dimension" "I" (.int 0) := D377 (Or.inr (own_w hw 364 rfl)) (ty := .int) (by decide)
  have F_vectors_b377 : Fld Z h377 b377 kIV "vectors" "I" (.int 0) := D377 (Or.inl (own_w hw 366 rfl)) (ty := .int) (by decide)
  have F_values_b377 : Fld Z h377 b377 kIV "values" "[D" .null := D377 (Or.inl (own_w hw 372 rfl)) (ty := (.array .double)) (by decide)
  have F_sums_b377 : Fld Z h377 b377 kIV "sums" "[D" .null := D377 (Or.inl (own_w hw 424 rfl)) (ty := (.array .double)) (by decide)
  have Fc380 := ((Fc362.keep P371_0).ext E377)
  have Fc381 := ((Fc369.keep P371_0).ext E377)
  have Fc382 := ((((((Fc274.keep P275_0).ext E279).ext E282).keep P360_0).keep P371_0).ext E377)
  have nq383 : b173 ≠ b279 := (Nat.ne_of_lt (Nat.lt_of_lt_of_le (Fc274.keep P275_0).lt (Nat.le_of_eq g279.symm)))
  have nq384 : b173 ≠ el_275 := (Nat.ne_of_lt (Nat.lt_of_lt_of_le Fc274.lt P275_1))
  have Fc385 := ((((((P266_6.keep P275_0 (ninS (Ne.symm nq269) nin0)).ext E279).ext E282).keep P360_0 (ninS nq383 nin0)).keep P371_0 (ninS (Ne.symm nq269) (ninS nq384 nin0))).ext E377)
  have Fc386 := ((((((P266_7.keep P275_0 (ninS (Ne.symm nq269) nin0)).ext E279).ext E282).keep P360_0 (ninS nq383 nin0)).keep P371_0 (ninS (Ne.symm nq269) (ninS nq384 nin0))).ext E377)
  have Fc387 := ((((((P266_8.keep P275_0).ext E279).ext E282).keep P360_0).keep P371_0).ext E377)
  have nq388 : b166 ≠ LL_266 := (Nat.ne_of_lt (Nat.lt_of_lt_of_le ((P170_1.ext E173).ext E176).lt P266_1))
  have nq389 : LL_266 ≠ b279 := (Nat.ne_of_lt (Nat.lt_of_lt_of_le (P266_8.keep P275_0).lt (Nat.le_of_eq g279.symm)))
  have nq390 : LL_266 ≠ el_275 := (Nat.ne_of_lt (Nat.lt_of_lt_of_le P266_8.lt P275_1))
  have Fc391 := ((((((P266_9.keep P275_0 (ninS (Ne.symm nq388) nin0)).ext E279).ext E282).keep P360_0 (ninS nq389 nin0)).keep P371_0 (ninS (Ne.symm nq388) (ninS nq390 nin0))).ext E377)
  have Fc392 := ((((((P266_10.keep P275_0 (ninS (Ne.symm nq388) nin0)).ext E279).ext E282).keep P360_0 (ninS nq389 nin0)).keep P371_0 (ninS (Ne.symm nq388) (ninS nq390 nin0))).ext E377)
  have Fc393 := ((((((P266_11.keep P275_0).ext E279).ext E282).keep P360_0).keep P371_0).ext E377)
  have nq394 : b166 ≠ NN0_266 := (Nat.ne_of_lt (Nat.lt_of_lt_of_le ((P170_1.ext E173).ext E176).lt P266_2))
  have nq395 : NN0_266 ≠ b279 := (Nat.ne_of_lt (Nat.lt_of_lt_of_le (P266_11.keep P275_0).lt (Nat.le_of_eq g279.symm)))
  have nq396 : NN0_266 ≠ el_275 := (Nat.ne_of_lt (Nat.lt_of_lt_of_le P266_11.lt P275_1))
  have Fc397 := ((((((P266_12.keep P275_0 (ninS (Ne.symm nq394) nin0)).ext E279).ext E282).keep P360_0 (ninS nq395 nin0)).keep P371_0 (ninS (Ne.symm nq394) (ninS nq396 nin0))).ext E377)
  have Fc398 := ((((((P266_13.keep P275_0 (ninS (Ne.symm nq394) nin0)).ext E279).ext E282).keep P360_0 (ninS nq395 nin0)).keep P371_0 (ninS (Ne.symm nq394) (ninS nq396 nin0))).ext E377)
  have nq399 : b166 ≠ A0_266 := (Nat.ne_of_lt (Nat.lt_of_lt_of_le ((P170_1.ext E173).ext E176).lt P266_4))
  have nq400 : A0_266 ≠ b279 := (Nat.ne_of_lt (Nat.lt_of_lt_of_le (P266_15.keep P275_0).lt (Nat.le_of_eq g279.symm)))
  have nq401 : A0_266 ≠ el_275 := (Nat.ne_of_lt (Nat.lt_of_lt_of_le P266_15.lt P275_1))
  have Fc402 := ((((((P266_14.keep P275_0 (ninS (Ne.symm nq399) nin0)).ext E279).ext E282).keep P360_0 (ninS nq400 nin0)).keep P371_0 (ninS (Ne.symm nq399) (ninS nq401 nin0))).ext E377)
  have Fc403 := ((((((P266_15.keep P275_0).ext E279).ext E282).keep P360_0).keep P371_0).ext E377)
  have Fc404 := ((((((P266_16.keep P275_0).ext E279).ext E282).keep P360_0).keep P371_0).ext E377)
  have nq405 : b166 ≠ NN1_266 := (Nat.ne_of_lt (Nat.lt_of_lt_of_le ((P170_1.ext E173).ext E176).lt P266_3))
  have nq406 : NN1_266 ≠ b279 := (Nat.ne_of_lt (Nat.lt_of_lt_of_le (P266_16.keep P275_0).lt (Nat.le_of_eq g279.symm)))
  have nq407 : NN1_266 ≠ el_275 := (Nat.ne_of_lt (Nat.lt_of_lt_of_le P266_16.lt P275_1))
  have Fc408 := ((((((P266_17.keep P275_0 (ninS (Ne.symm nq405) nin0)).ext E279).ext E282).keep P360_0 (ninS nq406 nin0)).keep P371_0 (ninS (Ne.symm nq405) (ninS nq407 nin0))).ext E377)
  have Fc409 := ((((((P266_18.keep P275_0 (ninS (Ne.symm nq405) nin0)).ext E279).ext E282).keep P360_0 (ninS nq406 nin0)).keep P371_0 (ninS (Ne.symm nq405) (ninS nq407 nin0))).ext E377)
  have nq410 : b166 ≠ A1_266 := (Nat.ne_of_lt (Nat.lt_of_lt_of_le ((P170_1.ext E173).ext E176).lt P266_5))
  have nq411 : A1_266 ≠ b279 := (Nat.ne_of_lt (Nat.lt_of_lt_of_le (P266_20.keep P275_0).lt (Nat.le_of_eq g279.symm)))
  have nq412 : A1_266 ≠ el_275 := (Nat.ne_of_lt (Nat.lt_of_lt_of_le P266_20.lt P275_1))
  have Fc413 := ((((((P266_19.keep P275_0 (ninS (Ne.symm nq410) nin0)).ext E279).ext E282).keep P360_0 (ninS nq411 nin0)).keep P371_0 (ninS (Ne.symm nq410) (ninS nq412 nin0))).ext E377)
  have Fc414 := ((((((P266_20.keep P275_0).ext E279).ext E282).keep P360_0).keep P371_0).ext E377)
  have Fc415 := ((Fc370.keep P371_0).ext E377)
  have Fc416 := ((P360_6.keep P371_0 (ninS (Ne.symm nq363) (ninS (Ne.symm nq367) nin0))).ext E377)
  have Fc417 := ((P360_7.keep P371_0 (ninS (Ne.symm nq363) (ninS (Ne.symm nq367) nin0))).ext E377)
  have Fc418 := ((P360_8.keep P371_0).ext E377)
  have nq419 : b166 ≠ LL_360 := (Nat.ne_of_lt (Nat.lt_of_lt_of_le ((P275_4.ext E279).ext E282).lt P360_1))
  have nq420 : el_275 ≠ LL_360 := (Nat.ne_of_lt (Nat.lt_of_lt_of_le ((P275_6.ext E279).ext E282).lt P360_1))
  have Fc421 := ((P360_9.keep P371_0 (ninS (Ne.symm nq419) (ninS (Ne.symm nq420) nin0))).ext E377)
  have Fc422 := ((P360_10.keep P371_0 (ninS (Ne.symm nq419) (ninS (Ne.symm nq420) nin0))).ext E377)
  have Fc423 := ((P360_11.keep P371_0).ext E377)
  have nq424 : b166 ≠ NN0_360 := (Nat.ne_of_lt (Nat.lt_of_lt_of_le ((P275_4.ext E279).ext E282).lt P360_2))
  have nq425 : el_275 ≠ NN0_360 := (Nat.ne_of_lt (Nat.lt_of_lt_of_le ((P275_6.ext E279).ext E282).lt P360_2))
  have Fc426 := ((P360_12.keep P371_0 (ninS (Ne.symm nq424) (ninS (Ne.symm nq425) nin0))).ext E377)
  have Fc427 := ((P360_13.keep P371_0 (ninS (Ne.symm nq424) (ninS (Ne.symm nq425) nin0))).ext E377)
  have nq428 : b166 ≠ A0_360 := (Nat.ne_of_lt (Nat.lt_of_lt_of_le ((P275_4.ext E279).ext E282).lt P360_4))
  have nq429 : el_275 ≠ A0_360 := (Nat.ne_of_lt (Nat.lt_of_lt_of_le ((P275_6.ext E279).ext E282).lt P360_4))
  have Fc430 := ((P360_14.keep P371_0 (ninS (Ne.symm nq428) (ninS (Ne.symm nq429) nin0))).ext E377)
  have Fc431 := ((P360_15.keep P371_0).ext E377)
  have Fc432 := ((P360_16.keep P371_0).ext E377)
  have nq433 : b166 ≠ NN1_360 := (Nat.ne_of_lt (Nat.lt_of_lt_of_le ((P275_4.ext E279).ext E282).lt P360_3))
  have nq434 : el_275 ≠ NN1_360 := (Nat.ne_of_lt (Nat.lt_of_lt_of_le ((P275_6.ext E279).ext E282).lt P360_3))
  have Fc435 := ((P360_17.keep P371_0 (ninS (Ne.symm nq433) (ninS (Ne.symm nq434) nin0))).ext E377)
  have Fc436 := ((P360_18.keep P371_0 (ninS (Ne.symm nq433) (ninS (Ne.symm nq434) nin0))).ext E377)
  have nq437 : b166 ≠ A1_360 := (Nat.ne_of_lt (Nat.lt_of_lt_of_le ((P275_4.ext E279).ext E282).lt P360_5))
  have nq438 : el_275 ≠ A1_360 := (Nat.ne_of_lt (Nat.lt_of_lt_of_le ((P275_6.ext E279).ext E282).lt P360_5))
  have Fc439 := ((P360_19.keep P371_0 (ninS (Ne.symm nq437) (ninS (Ne.symm nq438) nin0))).ext E377)
  have Fc440 := ((P360_20.keep P371_0).ext E377)
  have Fc441 := (((((((Fc223.keep P266_0).keep P275_0).ext E279).ext E282).keep P360_0).keep P371_0).ext E377)
  have nq442 : x0_108 ≠ b173 := (Nat.ne_of_lt (Nat.lt_of_lt_of_le (((((((((((P108_13.keep P115_0).keep P120_0).keep P127_0).ext E133).keep P137_0).keep P141_0).keep P148_0).keep P153_0).keep P160_0).ext E166).keep P170_0).lt (Nat.le_of_eq g173.symm)))
  have nq443 : x0_108 ≠ b279 := (Nat.ne_of_lt (Nat.lt_of_lt_of_le ((Fc223.keep P266_0).keep P275_0).lt (Nat.le_of_eq g279.symm)))
  have nq444 : x0_108 ≠ el_275 := (Nat.ne_of_lt (Nat.lt_of_lt_of_le (Fc223.keep P266_0).lt P275_1))
  have Fc445 := (((((((Fc229.keep P266_0 (ninS nq442 nin0)).keep P275_0 (ninS nq228 nin0)).ext E279).ext E282).keep P360_0 (ninS nq443 nin0)).keep P371_0 (ninS nq228 (ninS nq444 nin0))).ext E377)
  have Fc446 := (((((((Fc230.keep P266_0).keep P275_0).ext E279).ext E282).keep P360_0).keep P371_0).ext E377)
  have nq447 : x1_108 ≠ b173 := (Nat.ne_of_lt (Nat.lt_of_lt_of_le (((((((((((P108_15.keep P115_0).keep P120_0).keep P127_0).ext E133).keep P137_0).keep P141_0).keep P148_0).keep P153_0).keep P160_0).ext E166).keep P170_0).lt (Nat.le_of_eq g173.symm)))
  have nq448 : x1_108 ≠ b279 := (Nat.ne_of_lt (Nat.lt_of_lt_of_le ((Fc230.keep P266_0).keep P275_0).lt (Nat.le_of_eq g279.symm)))
  have nq449 : x1_108 ≠ el_275 := (Nat.ne_of_lt (Nat.lt_of_lt_of_le (Fc230.keep P266_0).lt P275_1))
  have Fc450 := (((((((Fc236.keep P266_0 (ninS nq447 nin0)).keep P275_0 (ninS nq235 nin0)).ext E279).ext E282).keep P360_0 (ninS nq448 nin0)).keep P371_0 (ninS nq235 (ninS nq449 nin0))).ext E377)
  have Fc451 := (((((((Fc237.keep P266_0).keep P275_0).ext E279).ext E282).keep P360_0).keep P371_0).ext E377)
  have nq452 : x2_108 ≠ b173 := (Nat.ne_of_lt (Nat.lt_of_lt_of_le (((((((((((P108_17.keep P115_0).keep P120_0).keep P127_0).ext E133).keep P137_0).keep P141_0).keep P148_0).keep P153_0).keep P160_0).ext E166).keep P170_0).lt (Nat.le_of_eq g173.symm)))
  have nq453 : x2_108 ≠ b279 := (Nat.ne_of_lt (Nat.lt_of_lt_of_le ((Fc237.keep P266_0).keep P275_0).lt (Nat.le_of_eq g279.symm)))
  have nq454 : x2_108 ≠ el_275 := (Nat.ne_of_lt (Nat.lt_of_lt_of_le (Fc237.keep P266_0).lt P275_1))
  have Fc455 := (((((((Fc243.keep P266_0 (ninS nq452 nin0)).keep P275_0 (ninS nq242 nin0)).ext E279).ext E282).keep P360_0 (ninS nq453 nin0)).keep P371_0 (ninS nq242 (ninS nq454 nin0))).ext E377)
  have Fc456 := (((((((Fc244.keep P266_0).keep P275_0).ext E279).ext E282).keep P360_0).keep P371_0).ext E377)
  have nq457 : x0_120 ≠ b173 := (Nat.ne_of_lt (Nat.lt_of_lt_of_le (((((((((P120_13.keep P127_0).ext E133).keep P137_0).keep P141_0).keep P148_0).keep P153_0).keep P160_0).ext E166).keep P170_0).lt (Nat.le_of_eq g173.symm)))
  have nq458 : x0_120 ≠ b279 := (Nat.ne_of_lt (Nat.lt_of_lt_of_le ((Fc244.keep P266_0).keep P275_0).lt (Nat.le_of_eq g279.symm)))
  have nq459 : x0_120 ≠ el_275 := (Nat.ne_of_lt (Nat.lt_of_lt_of_le (Fc244.keep P266_0).lt P275_1))
  have Fc460 := (((((((Fc250.keep P266_0 (ninS nq457 nin0)).keep P275_0 (ninS nq249 nin0)).ext E279).ext E282).keep P360_0 (ninS nq458 nin0)).keep P371_0 (ninS nq249 (ninS nq459 nin0))).ext E377)
  have Fc461 := (((((((Fc251.keep P266_0).keep P275_0).ext E279).ext E282).keep P360_0).keep P371_0).ext E377)
  have nq462 : x1_120 ≠ b173 := (Nat.ne_of_lt (Nat.lt_of_lt_of_le (((((((((P120_15.keep P127_0).ext E133).keep P137_0).keep P141_0).keep P148_0).keep P153_0).keep P160_0).ext E166).keep P170_0).lt (Nat.le_of_eq g173.symm)))
  have nq463 : x1_120 ≠ b279 := (Nat.ne_of_lt (Nat.lt_of_lt_of_le ((Fc251.keep P266_0).keep P275_0).lt (Nat.le_of_eq g279.symm)))
  have nq464 : x1_120 ≠ el_275 := (Nat.ne_of_lt (Nat.lt_of_lt_of_le (Fc251.keep P266_0).lt P275_1))
  have Fc465 := (((((((Fc257.keep P266_0 (ninS nq462 nin0)).keep P275_0 (ninS nq256 nin0)).ext E279).ext E282).keep P360_0 (ninS nq463 nin0)).keep P371_0 (ninS nq256 (ninS nq464 nin0))).ext E377)
  have Fc466 := (((((((Fc258.keep P266_0).keep P275_0).ext E279).ext E282).keep P360_0).keep P371_0).ext E377)
  have nq467 : x2_120 ≠ b173 := (Nat.ne_of_lt (Nat.lt_of_lt_of_le (((((((((P120_17.keep P127_0).ext E133).keep P137_0).keep P141_0).keep P148_0).keep P153_0).keep P160_0).ext E166).keep P170_0).lt (Nat.le_of_eq g173.symm)))
  have nq468 : x2_120 ≠ b279 := (Nat.ne_of_lt (Nat.lt_of_lt_of_le ((Fc258.keep P266_0).keep P275_0).lt (Nat.le_of_eq g279.symm)))
  have nq469 : x2_120 ≠ el_275 := (Nat.ne_of_lt (Nat.lt_of_lt_of_le (Fc258.keep P266_0).lt P275_1))
  have Fc470 := (((((((Fc264.keep P266_0 (ninS nq467 nin0)).keep P275_0 (ninS nq263 nin0)).ext E279).ext E282).keep P360_0 (ninS nq468 nin0)).keep P371_0 (ninS nq263 (ninS nq469 nin0))).ext E377)
  have Fc471 := (((Fc323.keep P360_0).keep P371_0).ext E377)
  have nq472 : x0_141 ≠ b279 := (Nat.ne_of_lt (Nat.lt_of_lt_of_le (((((((((P141_13.keep P148_0).keep P153_0).keep P160_0).ext E166).keep P170_0).ext E173).ext E176).keep P266_0).keep P275_0).lt (Nat.le_of_eq g279.symm)))
  have nq473 : x0_141 ≠ el_275 := (Nat.ne_of_lt (Nat.lt_of_lt_of_le ((((((((P141_13.keep P148_0).keep P153_0).keep P160_0).ext E166).keep P170_0).ext E173).ext E176).keep P266_0).lt P275_1))
  have Fc474 := (((Fc328.keep P360_0 (ninS nq472 nin0)).keep P371_0 (ninS nq326 (ninS nq473 nin0))).ext E377)
  have Fc475 := (((Fc329.keep P360_0).keep P371_0).ext E377)
  have nq476 : x1_141 ≠ b279 := (Nat.ne_of_lt (Nat.lt_of_lt_of_le (((((((((P141_15.keep P148_0).keep P153_0).keep P160_0).ext E166).keep P170_0).ext E173).ext E176).keep P266_0).keep P275_0).lt (Nat.le_of_eq g279.symm)))
  have nq477 : x1_141 ≠ el_275 := (Nat.ne_of_lt (Nat.lt_of_lt_of_le ((((((((P141_15.keep P148_0).keep P153_0).keep P160_0).ext E166).keep P170_0).ext E173).ext E176).keep P266_0).lt P275_1))
  have Fc478 := (((Fc334.keep P360_0 (ninS nq476 nin0)).keep P371_0 (ninS nq332 (ninS nq477 nin0))).ext E377)
  have Fc479 := (((Fc335.keep P360_0).keep P371_0).ext E377)
  have nq480 : x2_141 ≠ b279 := (Nat.ne_of_lt (Nat.lt_of_lt_of_le (((((((((P141_17.keep P148_0).keep P153_0).keep P160_0).ext E166).keep P170_0).ext E173).ext E176).keep P266_0).keep P275_0).lt (Nat.le_of_eq g279.symm)))
  have nq481 : x2_141 ≠ el_275 := (Nat.ne_of_lt (Nat.lt_of_lt_of_le ((((((((P141_17.keep P148_0).keep P153_0).keep P160_0).ext E166).keep P170_0).ext E173).ext E176).keep P266_0).lt P275_1))
  have Fc482 := (((Fc340.keep P360_0 (ninS nq480 nin0)).keep P371_0 (ninS nq338 (ninS nq481 nin0))).ext E377)
  have Fc483 := (((Fc341.keep P360_0).keep P371_0).ext E377)
  have nq484 : x0_153 ≠ b279 := (Nat.ne_of_lt (Nat.lt_of_lt_of_le (((((((P153_13.keep P160_0).ext E166).keep P170_0).ext E173).ext E176).keep P266_0).keep P275_0).lt (Nat.le_of_eq g279.symm)))
  have nq485 : x0_153 ≠ el_275 := (Nat.ne_of_lt (Nat.lt_of_lt_of_le ((((((P153_13.keep P160_0).ext E166).keep P170_0).ext E173).ext E176).keep P266_0).lt P275_1))
  have Fc486 := (((Fc346.keep P360_0 (ninS nq484 nin0)).keep P371_0 (ninS nq344 (ninS nq485 nin0))).ext E377)
  have Fc487 := (((Fc347.keep P360_0).keep P371_0).ext E377)
  have nq488 : x1_153 ≠ b279 := (Nat.ne_of_lt (Nat.lt_of_lt_of_le (((((((P153_15.keep P160_0).ext E166).keep P170_0).ext E173).ext E176).keep P266_0).keep P275_0).lt (Nat.le_of_eq g279.symm)))
  have nq489 : x1_153 ≠ el_275 := (Nat.ne_of_lt (Nat.lt_of_lt_of_le ((((((P153_15.keep P160_0).ext E166).keep P170_0).ext E173).ext E176).keep P266_0).lt P275_1))
  have Fc490 := (((Fc352.keep P360_0 (ninS nq488 nin0)).keep P371_0 (ninS nq350 (ninS nq489 nin0))).ext E377)
  have Fc491 := (((Fc353.keep P360_0).keep P371_0).ext E377)
  have nq492 : x2_153 ≠ b279 := (Nat.ne_of_lt (Nat.lt_of_lt_of_le (((((((P153_17.keep P160_0).ext E166).keep P170_0).ext E173).ext E176).keep P266_0).keep P275_0).lt (Nat.le_of_eq g279.symm)))
  have nq493 : x2_153 ≠ el_275 := (Nat.ne_of_lt (Nat.lt_of_lt_of_le ((((((P153_17.keep P160_0).ext E166).keep P170_0).ext E173).ext E176).keep P266_0).lt P275_1))
  have Fc494 := (((Fc358.keep P360_0 (ninS nq492 nin0)).keep P371_0 (ninS nq356 (ninS nq493 nin0))).ext E377)
  have Ol495 := (((Ol359.keep P360_0 (allS g_b279 all0)).keep P371_0 (allS g_b166 (allS g_el_275 all0))).ext E377)
  obtain ⟨_, T496, L496, X496, hQ496, st496⟩ := own_cC X377 hx hZ360 hw how360 (b := b377) (W := 1) (rmm46 l Z a0 hw [] b377 b166 (.int 0) (.int 0) (.int 0) (.int 0) .null .null (.ref b176) (.ref b282) el_275 em b173 b279 LL_266 LL_360 NN0_266 NN1_266 NN0_360 NN1_360 A0_266 A1_266 A0_360 A1_360 x0_108 x1_108 x2_108 x0_120 x1_120 x2_120 x0_141 x1_141 x2_141 x0_153 x1_153 x2_153 kel_275 kA0_266 kA1_266 kA0_360 kA1_360 (own_val p0 p1 (0 : Int32)) (own_val p0 p1 ((0 : Int32) + (1 : Int32))) (own_val p0 p1 ((0 : Int32) + (2 : Int32))) (own_val p0 p1 (3 : Int32)) (own_val p0 p1 ((3 : Int32) + (1 : Int32))) (own_val p0 p1 ((3 : Int32) + (2 : Int32))) (own_val p0 p1 (6 : Int32)) (own_val p0 p1 ((6 : Int32) + (1 : Int32))) (own_val p0 p1 ((6 : Int32) + (2 : Int32))) (own_val p0 p1 (9 : Int32)) (own_val p0 p1 ((9 : Int32) + (1 : Int32))) (own_val p0 p1 ((9 : Int32) + (2 : Int32))) h377 n0 ZZ379 A377 g_b377 F_count_b377 F_instances_b377 F_dimension_b377 F_vectors_b377 F_values_b377 F_sums_b377 Fc380 (P371_1.ext E377) (Fr375.ext E377) (Fr376.ext E377) (Vr374.ext E377) Fc381 Fc382 Fc385 Fc386 Fc387 Fc391 Fc392 Fc393 Fc397 Fc398 Fc402 Fc403 Fc404 Fc408 Fc409 Fc413 Fc414 Fc415 Fc416 Fc417 Fc418 Fc421 Fc422 Fc423 Fc426 Fc427 Fc430 Fc431 Fc432 Fc435 Fc436 Fc439 Fc440 Fc441 Fc445 Fc446 Fc450 Fc451 Fc455 Fc456 Fc460 Fc461 Fc465 Fc466 Fc470 Fc471 Fc474 Fc475 Fc478 Fc479 Fc482 Fc483 Fc486 Fc487 Fc490 Fc491 Fc494 Ol495 S_EMPTY E_em (Ne.symm (Old.ne Ol495 E_em.lt g_NN1_266)) (Ne.symm (Old.ne Ol495 E_em.lt g_NN1_360)) (own_vs1 _ _ (by decide)) (own_vs2 _ _ (by decide) (by decide)) (own_vs3 _ _ (by decide) (by decide) (by decide)) (own_vs1 _ _ (by decide)) (own_vs2 _ _ (by decide) (by decide)) (own_vs3 _ _ (by decide) (by decide) (by decide)) (own_vs1 _ _ (by decide)) (own_vs2 _ _ (by decide) (by decide)) (own_vs3 _ _ (by decide) (by decide) (by decide)) (own_vs1 _ _ (by decide)) (own_vs2 _ _ (by decide) (by decide)) (own_vs3 _ _ (by decide) (by decide) (by decide))) (by decide) (by decide) (by decide) rfl 326 rfl 327 rfl 328 rfl 325 rfl e377 (g := (mkF m 140 #[oI p0, oI p1, oI p2, oI vv, oI kk, oR b101, oR b133, oR b166, oU, oU, oU, oU] [(.ref b166), (.ref b377), (.ref b377)])) rfl (by rw [hml]; rfl) (argsL := [(.ref b166)]) (rest := [(.ref b377)]) (lenOf pd34 rfl) rfl (Nat.le_of_eq rfl) (hb hby at_140) rfl (cN := 75) rfl (by decide) (sN := 314) rfl (by decide)
  obtain ⟨va_496, kva_496, rfl, Nq496, P496_0, P496_1, P496_2, P496_3, P496_4, P496_5⟩ := hQ496
  have N496 := Fr.app N371 Nq496
  have g_va_496 : n0 ≤ va_496 := Nat.le_trans ZZ379 P496_1
  have SK497 := Nat.le_trans SK378 P496_0.1
  have ZZ498 : n0 ≤ T496.heap.size := Nat.le_trans ZZ379 P496_0.1
  have pre499 : ∀ t, Steps p.tables e below (T496.setTop (mkF m 146 #[oI p0, oI p1, oI p2, oI vv, oI kk, oR b101, oR b133, oR b166, oR b377, oU, oU, oU] [(.int vv)])) t → Steps p.tables e below (s₁.setTop (mkF m 0 #[oI p0, oI p1, oI p2, oU, oU, oU, oU, oU, oU, oU, oU, oU] [])) t := by
    intro t kt
    show own_S p e below s₁ m 0 #[oI p0, oI p1, oI p2, oU, oU, oU, oU, oU, oU, oU, oU, oU] [] _
    refine XS.iloadN X0.here hx rfl (hb hby at_0) rfl ?_
    refine XS.iconst X0.here hx rfl (hb hby at_1) ?_
    show own_S p e below s₁ m 2 _ [(.int 3), (.int p2)] _
    refine XS.iand X0.here hx rfl (hb hby at_2) rfl ?_
    show own_S p e below s₁ m 3 _ [(.int (p2 &&& (3 : Int32)))] _
    refine reI (hvv.symm : (p2 &&& (3 : Int32)) = vv) ?_
    show own_S p e below s₁ m 3 _ [(.int vv)] _
    refine XS.istoreN X0.here hx rfl (hb hby at_3) rfl (l' := #[oI p0, oI p1, oI p2, oI vv, oU, oU, oU, oU, oU, oU, oU, oU]) rfl ?_
    refine XS.iloadN X0.here hx rfl (hb hby at_4) rfl ?_
    refine XS.iconst X0.here hx rfl (hb hby at_5) ?_
    show own_S p e below s₁ m 6 _ [(.int 2), (.int p2)] _
    refine XS.iushr X0.here hx rfl (hb hby at_6) rfl ?_
    show own_S p e below s₁ m 7 _ [(.int ((p2.toUInt32 >>> ((2 : Int32) &&& 31).toUInt32).toInt32))] _
    refine XS.iconst X0.here hx rfl (hb hby at_7) ?_
    show own_S p e below s₁ m 8 _ [(.int 3), (.int ((p2.toUInt32 >>> ((2 : Int32) &&& 31).toUInt32).toInt32))] _
    refine iremM (g := (mkF m 8 #[oI p0, oI p1, oI p2, oI vv, oU, oU, oU, oU, oU, oU, oU, oU] [(.int 3), (.int ((p2.toUInt32 >>> ((2 : Int32) &&& 31).toUInt32).toInt32))])) X0 hx rfl (hb hby at_8) rfl (by decide) ?_
    show own_S p e below s₁ m 9 _ [(.int (((p2.toUInt32 >>> ((2 : Int32) &&& 31).toUInt32).toInt32) % (3 : Int32)))] _
    refine reI (hkk.symm : (((p2.toUInt32 >>> ((2 : Int32) &&& 31).toUInt32).toInt32) % (3 : Int32)) = kk) ?_
    show own_S p e below s₁ m 9 _ [(.int kk)] _
    refine XS.istore X0.here hx rfl (hb hby at_9) rfl (l' := #[oI p0, oI p1, oI p2, oI vv, oI kk, oU, oU, oU, oU, oU, oU, oU]) rfl ?_
    show own_S p e below s₁ m 11 #[oI p0, oI p1, oI p2, oI vv, oI kk, oU, oU, oU, oU, oU, oU, oU] [] _
    refine st101 _ ?_
    show own_S p e below T101 m 14 _ [(.ref b101)] _
    refine XS.dup X101.here hx rfl (hb hby at_14) rfl rfl ?_
    show own_S p e below T101 m 15 _ [(.ref b101), (.ref b101)] _
    refine st104.trans ?_
    show own_S p e below T104 m 18 _ [(.ref b101)] _
    refine XS.astore X104.here hx rfl (hb hby at_18) rfl rfl (l' := #[oI p0, oI p1, oI p2, oI vv, oI kk, oR b101, oU, oU, oU, oU, oU, oU]) rfl ?_
    refine XS.aload X104.here hx rfl (hb hby at_20) rfl rfl ?_
    refine XS.iloadN X104.here hx rfl (hb hby at_22) rfl ?_
    refine XS.iloadN X104.here hx rfl (hb hby at_23) rfl ?_
    show own_S p e below T104 m 24 _ [(.int p1), (.int p0), (.ref b101)] _
    refine XS.iconst X104.here hx rfl (hb hby at_24) ?_
    show own_S p e below T104 m 25 _ [(.int 0), (.int p1), (.int p0), (.ref b101)] _
    refine st108.trans ?_
    show own_S p e below T108 m 28 _ [(.ref lo_108), (.ref b101)] _
    refine st115.trans ?_
    show own_S p e below T115 m 33 _ [(.int 1)] _
    refine XS.pop X115.here hx rfl (hb hby at_33) rfl rfl ?_
    show own_S p e below T115 m 34 #[oI p0, oI p1, oI p2, oI vv, oI kk, oR b101, oU, oU, oU, oU, oU, oU] [] _
    refine XS.aload X115.here hx rfl (hb hby at_34) rfl rfl ?_
    refine XS.iloadN X115.here hx rfl (hb hby at_36) rfl ?_
    refine XS.iloadN X115.here hx rfl (hb hby at_37) rfl ?_
    refine XS.iconst X115.here hx rfl (hb hby at_38) ?_
    show own_S p e below T115 m 39 _ [(.int 3), (.int p1), (.int p0), (.ref b101)] _
    refine st120.trans ?_
    show own_S p e below T120 m 42 _ [(.ref lo_120), (.ref b101)] _
    refine st127.trans ?_
    show own_S p e below T127 m 47 _ [(.int 1)] _
    refine XS.pop X127.here hx rfl (hb hby at_47) rfl rfl ?_
    show own_S p e below T127 m 48 #[oI p0, oI p1, oI p2, oI vv, oI kk, oR b101, oU, oU, oU, oU, oU, oU] [] _
    refine st133 _ ?_
    show own_S p e below T133 m 51 _ [(.ref b133)] _
    refine XS.dup X133.here hx rfl (hb hby at_51) rfl rfl ?_
    show own_S p e below T133 m 52 _ [(.ref b133), (.ref b133)] _
    refine st137.trans ?_
    show own_S p e below T137 m 55 _ [(.ref b133)] _
    refine XS.astore X137.here hx rfl (hb hby at_55) rfl rfl (l' := #[oI p0, oI p1, oI p2, oI vv, oI kk, oR b101, oR b133, oU, oU, oU, oU, oU]) rfl ?_
    refine XS.aload X137.here hx rfl (hb hby at_57) rfl rfl ?_
    refine XS.iloadN X137.here hx rfl (hb hby at_59) rfl ?_
    refine XS.iloadN X137.here hx rfl (hb hby at_60) rfl ?_
    show own_S p e below T137 m 61 _ [(.int p1), (.int p0), (.ref b133)] _
    refine XS.bipush X137.here hx rfl (hb hby at_61) ?_
    show own_S p e below T137 m 63 _ [(.int 6), (.int p1), (.int p0), (.ref b133)] _
    refine st141.trans ?_
    show own_S p e below T141 m 66 _ [(.ref lo_141), (.ref b133)] _
    refine st148.trans ?_
    show own_S p e below T148 m 71 _ [(.int 1)] _
    refine XS.pop X148.here hx rfl (hb hby at_71) rfl rfl ?_
    show own_S p e below T148 m 72 #[oI p0, oI p1, oI p2, oI vv, oI kk, oR b101, oR b133, oU, oU, oU, oU, oU] [] _
    refine XS.aload X148.here hx rfl (hb hby at_72) rfl rfl ?_
    refine XS.iloadN X148.here hx rfl (hb hby at_74) rfl ?_
    refine XS.iloadN X148.here hx rfl (hb hby at_75) rfl ?_
    refine XS.bipush X148.here hx rfl (hb hby at_76) ?_
    show own_S p e below T148 m 78 _ [(.int 9), (.int p1), (.int p0), (.ref b133)] _
    refine st153.trans ?_
    show own_S p e below T153 m 81 _ [(.ref lo_153), (.ref b133)] _
    refine st160.trans ?_
    show own_S p e below T160 m 86 _ [(.int 1)] _
    refine XS.pop X160.here hx rfl (hb hby at_86) rfl rfl ?_
    show own_S p e below T160 m 87 #[oI p0, oI p1, oI p2, oI vv, oI kk, oR b101, oR b133, oU, oU, oU, oU, oU] [] _
    refine st166 _ ?_
    show own_S p e below T166 m 90 _ [(.ref b166)] _
    refine XS.dup X166.here hx rfl (hb hby at_90) rfl rfl ?_
    show own_S p e below T166 m 91 _ [(.ref b166), (.ref b166)] _
    refine st170.trans ?_
    show own_S p e below T170 m 94 _ [(.ref b166)] _
    refine XS.astore X170.here hx rfl (hb hby at_94) rfl rfl (l' := #[oI p0, oI p1, oI p2, oI vv, oI kk, oR b101, oR b133, oR b166, oU, oU, oU, oU]) rfl ?_
    refine XS.aload X170.here hx rfl (hb hby at_96) rfl rfl ?_
    show own_S p e below T170 m 98 _ [(.ref b166)] _
    refine st173 _ ?_
    show own_S p e below T173 m 101 _ [(.ref b173), (.ref b166)] _
    refine XS.dup X173.here hx rfl (hb hby at_101) rfl rfl ?_
    show own_S p e below T173 m 102 _ [(.ref b173), (.ref b173), (.ref b166)] _
    refine st176 _ ?_
    show own_S p e below T176 m 104 _ [(.ref b176), (.ref b173), (.ref b173), (.ref b166)] _
    refine XS.aload X176.here hx rfl (hb hby at_104) rfl rfl ?_
    show own_S p e below T176 m 106 _ [(.ref b101), (.ref b176), (.ref b173), (.ref b173), (.ref b166)] _
    refine st266.trans ?_
    show own_S p e below T266 m 109 _ [(.ref b173), (.ref b166)] _
    refine st275.trans ?_
    show own_S p e below T275 m 114 #[oI p0, oI p1, oI p2, oI vv, oI kk, oR b101, oR b133, oR b166, oU, oU, oU, oU] [(.int 1)] _
    refine XS.pop X275.here hx rfl (hb hby at_114) rfl rfl ?_
    show own_S p e below T275 m 115 _ [] _
    refine XS.aload X275.here hx rfl (hb hby at_115) rfl rfl ?_
    show own_S p e below T275 m 117 _ [(.ref b166)] _
    refine st279 _ ?_
    show own_S p e below T279 m 120 _ [(.ref b279), (.ref b166)] _
    refine XS.dup X279.here hx rfl (hb hby at_120) rfl rfl ?_
    show own_S p e below T279 m 121 _ [(.ref b279), (.ref b279), (.ref b166)] _
    refine st282 _ ?_
    show own_S p e below T282 m 123 _ [(.ref b282), (.ref b279), (.ref b279), (.ref b166)] _
    refine XS.aload X282.here hx rfl (hb hby at_123) rfl rfl ?_
    show own_S p e below T282 m 125 _ [(.ref b133), (.ref b282), (.ref b279), (.ref b279), (.ref b166)] _
    refine st360.trans ?_
    show own_S p e below T360 m 128 #[oI p0, oI p1, oI p2, oI vv, oI kk, oR b101, oR b133, oR b166, oU, oU, oU, oU] [(.ref b279), (.ref b166)] _
    refine st371.trans ?_
    show own_S p e below T371 m 133 _ [(.int 1)] _
    refine XS.pop X371.here hx rfl (hb hby at_133) rfl rfl ?_
    show own_S p e below T371 m 134 _ [] _
    refine st377 _ ?_
    show own_S p e below T377 m 137 _ [(.ref b377)] _
    refine XS.dup X377.here hx rfl (hb hby at_137) rfl rfl ?_
    refine XS.aload X377.here hx rfl (hb hby at_138) rfl rfl ?_
    show own_S p e below T377 m 140 _ [(.ref b166), (.ref b377), (.ref b377)] _
    refine st496.trans ?_
    show own_S p e below T496 m 143 _ [(.ref b377)] _
    refine XS.astore X496.here hx rfl (hb hby at_143) rfl rfl (l' := #[oI p0, oI p1, oI p2, oI vv, oI kk, oR b101, oR b133, oR b166, oR b377, oU, oU, oU]) rfl ?_
    refine XS.iloadN X496.here hx rfl (hb hby at_145) rfl ?_
    exact kt
  have pre500 : ∀ t, Steps p.tables e below (T496.setTop (mkF m 182 #[oI p0, oI p1, oI p2, oI vv, oI kk, oR b101, oR b133, oR b166, oR b377, oI st, oU, oU] [])) t → Steps p.tables e below (s₁.setTop (mkF m 0 #[oI p0, oI p1, oI p2, oU, oU, oU, oU, oU, oU, oU, oU, oU] [])) t := by
    intro t kt
    refine pre499 _ ?_
    show own_S p e below T496 m 146 #[oI p0, oI p1, oI p2, oI vv, oI kk, oR b101, oR b133, oR b166, oR b377, oU, oU, oU] [(.int vv)] _
    by_cases hv0 : vv = (0 : Int32)
    · skip
      refine XS.ifNo X496.here hx rfl (hb hby at_146) rfl ((if0 _ _).trans (teq (hv0 : vv = (0 : Int32))).2) ?_
      refine XS.iconst X496.here hx rfl (hb hby at_149) ?_
      refine XS.istore X496.here hx rfl (hb hby at_150) rfl (l' := #[oI p0, oI p1, oI p2, oI vv, oI kk, oR b101, oR b133, oR b166, oR b377, oI 0, oU, oU]) rfl ?_
      refine XS.goto X496.here hx rfl (pc0 := 152) (pc' := 182) rfl (hb hby at_152) (by decide) (by decide) ?_
      rw [((own_st0 hst hv0) : st = (0 : Int32))] at kt
      exact kt
    · skip
      refine XS.ifYes X496.here hx rfl (pc0 := 146) (pc' := 155) rfl (hb hby at_146) rfl ((if0 _ _).trans (feq (hv0 : ¬ (vv = (0 : Int32)))).2) (by decide) (by decide) ?_
      show own_S p e below T496 m 155 #[oI p0, oI p1, oI p2, oI vv, oI kk, oR b101, oR b133, oR b166, oR b377, oU, oU, oU] [] _
      refine XS.iloadN X496.here hx rfl (hb hby at_155) rfl ?_
      refine XS.iconst X496.here hx rfl (hb hby at_156) ?_
      show own_S p e below T496 m 157 _ [(.int 1), (.int vv)] _
      by_cases hv1 : vv = (1 : Int32)
      · skip
        refine XS.icmpNo X496.here hx rfl (hb hby at_157) rfl (teq (hv1 : vv = (1 : Int32))).2 ?_
        refine XS.iconst X496.here hx rfl (hb hby at_160) ?_
        refine XS.istore X496.here hx rfl (hb hby at_161) rfl (l' := #[oI p0, oI p1, oI p2, oI vv, oI kk, oR b101, oR b133, oR b166, oR b377, oI 3, oU, oU]) rfl ?_
        refine XS.goto X496.here hx rfl (pc0 := 163) (pc' := 182) rfl (hb hby at_163) (by decide) (by decide) ?_
        rw [((own_st1 hst hv0 hv1) : st = (3 : Int32))] at kt
        exact kt
      · skip
        refine XS.icmpYes X496.here hx rfl (pc0 := 157) (pc' := 166) rfl (hb hby at_157) rfl (feq (hv1 : ¬ (vv = (1 : Int32)))).2 (by decide) (by decide) ?_
        show own_S p e below T496 m 166 #[oI p0, oI p1, oI p2, oI vv, oI kk, oR b101, oR b133, oR b166, oR b377, oU, oU, oU] [] _
        refine XS.iloadN X496.here hx rfl (hb hby at_166) rfl ?_
        refine XS.iconst X496.here hx rfl (hb hby at_167) ?_
        show own_S p e below T496 m 168 _ [(.int 2), (.int vv)] _
        by_cases hv2 : vv = (2 : Int32)
        · skip
          refine XS.icmpNo X496.here hx rfl (hb hby at_168) rfl (teq (hv2 : vv = (2 : Int32))).2 ?_
          refine XS.bipush X496.here hx rfl (hb hby at_171) ?_
          refine XS.istore X496.here hx rfl (hb hby at_173) rfl (l' := #[oI p0, oI p1, oI p2, oI vv, oI kk, oR b101, oR b133, oR b166, oR b377, oI 6, oU, oU]) rfl ?_
          refine XS.goto X496.here hx rfl (pc0 := 175) (pc' := 182) rfl (hb hby at_175) (by decide) (by decide) ?_
          rw [((own_st2 hst hv0 hv1 hv2) : st = (6 : Int32))] at kt
          exact kt
        · skip
          refine XS.icmpYes X496.here hx rfl (pc0 := 168) (pc' := 178) rfl (hb hby at_168) rfl (feq (hv2 : ¬ (vv = (2 : Int32)))).2 (by decide) (by decide) ?_
          show own_S p e below T496 m 178 #[oI p0, oI p1, oI p2, oI vv, oI kk, oR b101, oR b133, oR b166, oR b377, oU, oU, oU] [] _
          refine XS.bipush X496.here hx rfl (hb hby at_178) ?_
          refine XS.istore X496.here hx rfl (hb hby at_180) rfl (l' := #[oI p0, oI p1, oI p2, oI vv, oI kk, oR b101, oR b133, oR b166, oR b377, oI 9, oU, oU]) rfl ?_
          rw [((own_st3 hst hv0 hv1 hv2) : st = (9 : Int32))] at kt
          exact kt
  obtain ⟨_, T501, L501, X501, hQ501, st501⟩ := own_cS X496 hx hZ360 hw how360 (W := 0) (rmm6 l Z a0 hw [] p0 p1 (st + kk) T496.heap n0 ZZ498 ) (by decide) (by decide) (by decide) 30 rfl 31 rfl 28 rfl 32 rfl rfl (g := (mkF m 189 #[oI p0, oI p1, oI p2, oI vv, oI kk, oR b101, oR b133, oR b166, oR b377, oI st, oU, oU] [(.int (st + kk)), (.int p1), (.int p0)])) rfl (by rw [hml]; rfl) (argsL := [(.int p0), (.int p1), (.int (st + kk))]) (rest := []) (lenOf pd30 rfl) rfl (Nat.le_of_eq rfl) (hb hby at_189) rfl (cN := 75) rfl (by decide) (sN := 314) rfl (by decide)
  obtain ⟨rfl, Nq501, P501_0⟩ := hQ501
  have N501 := Fr.app N496 Nq501
  obtain ⟨_, T502, L502, X502, hQ502, st502⟩ := own_cV X501 hx hZ360 hw how360 (b := b377) (W := 0) (rmm58 l Z a0 hw [] b377 vv kk va_496 kva_496 [(.double (own_val p0 p1 (0 : Int32))), (.double (own_val p0 p1 ((0 : Int32) + (1 : Int32)))), (.double (own_val p0 p1 ((0 : Int32) + (2 : Int32)))), (.double (own_val p0 p1 (3 : Int32))), (.double (own_val p0 p1 ((3 : Int32) + (1 : Int32)))), (.double (own_val p0 p1 ((3 : Int32) + (2 : Int32)))), (.double (own_val p0 p1 (6 : Int32))), (.double (own_val p0 p1 ((6 : Int32) + (1 : Int32)))), (.double (own_val p0 p1 ((6 : Int32) + (2 : Int32)))), (.double (own_val p0 p1 (9 : Int32))), (.double (own_val p0 p1 ((9 : Int32) + (1 : Int32)))), (.double (own_val p0 p1 ((9 : Int32) + (2 : Int32))))] (own_val p0 p1 (st + kk)) T496.heap n0 ZZ498 (A377.keep P496_0) P496_3 P496_2 P496_4 (own_vin hV hK3) (own_vg hV hK3 hst)) (by decide) (by decide) (by decide) 429 rfl 430 rfl 432 rfl 431 rfl 433 rfl 325 rfl P501_0 (A377.keep P496_0) (g := (mkF m 199 #[oI p0, oI p1, oI p2, oI vv, oI kk, oR b101, oR b133, oR b166, oR b377, oI st, .val (.double (own_val p0 p1 (st + kk))), oV] [(.int kk), (.int vv), (.ref b377)])) rfl (by rw [hml]; rfl) (argsL := [(.int vv), (.int kk)]) (rest := []) (lenOf pd35 rfl) rfl (Nat.le_of_eq rfl) (hb hby at_199) rfl (cN := 75) rfl (by decide) (sN := 314) rfl (by decide)
  obtain ⟨rfl, Nq502, P502_0⟩ := hQ502
  have N502 := Fr.app N501 Nq502
  obtain ⟨fs, hr, hrun, hended, hREW⟩ := X502.leaveW hS360 (by rw [P502_0]; exact SK497) (v := some (.int 1)) (fun h => by rw [Bd.returns] at h; cases h)
  refine ⟨_, _, pre0 _ (pre500 _ ?_), hrun, hended, _, _, rfl, ?_, hREW.1, hREW.2.1, hREW.2.2.1, hREW.2.2.2.mono (by decide) (by decide)⟩
  · show own_S p e below T496 m 182 #[oI p0, oI p1, oI p2, oI vv, oI kk, oR b101, oR b133, oR b166, oR b377, oI st, oU, oU] [] _
    refine XS.iloadN X496.here hx rfl (hb hby at_182) rfl ?_
    refine XS.iloadN X496.here hx rfl (hb hby at_183) rfl ?_
    refine XS.iload X496.here hx rfl (hb hby at_184) rfl ?_
    refine XS.iload X496.here hx rfl (hb hby at_186) rfl ?_
    show own_S p e below T496 m 188 _ [(.int kk), (.int st), (.int p1), (.int p0)] _
    refine XS.iadd X496.here hx rfl (hb hby at_188) rfl ?_
    show own_S p e below T496 m 189 _ [(.int (st + kk)), (.int p1), (.int p0)] _
    refine st501.trans ?_
    show own_S p e below T501 m 192 _ [(.double (own_val p0 p1 (st + kk)))] _
    refine XS.dstore X501.here hx rfl (hb hby at_192) rfl (l' := #[oI p0, oI p1, oI p2, oI vv, oI kk, oR b101, oR b133, oR b166, oR b377, oI st, .val (.double (own_val p0 p1 (st + kk))), oV]) rfl ?_
    refine XS.aload X501.here hx rfl (hb hby at_194) rfl rfl ?_
    refine XS.iloadN X501.here hx rfl (hb hby at_196) rfl ?_
    refine XS.iload X501.here hx rfl (hb hby at_197) rfl ?_
    show own_S p e below T501 m 199 _ [(.int kk), (.int vv), (.ref b377)] _
    refine st502.trans ?_
    show own_S p e below T502 m 202 _ [(.double (own_val p0 p1 (st + kk)))] _
    refine XS.dload X502.here hx rfl (hb hby at_202) rfl ?_
    show own_S p e below T502 m 204 _ [(.double (own_val p0 p1 (st + kk))), (.double (own_val p0 p1 (st + kk)))] _
    refine XS.dcmpS X502.here hx rfl (v := (0 : Int32)) (hb hby at_204) rfl (own_vself _ _ _) ?_
    show own_S p e below T502 m 205 _ [(.int 0)] _
    refine XS.ifNo X502.here hx rfl (hb hby at_205) rfl ((if0 _ _).trans (teq (by decide : (0 : Int32) = (0 : Int32))).2) ?_
    refine XS.iconst X502.here hx rfl (hb hby at_208) ?_
    refine XS.goto X502.here hx rfl (pc0 := 209) (pc' := 213) rfl (hb hby at_209) (by decide) (by decide) ?_
    show own_S p e below T502 m 213 _ [(.int 1)] _
    exact retN X502 hx (t := .boolean) Bd.returns (by simp) (hb hby at_213) hr
  · show Qm0 Z p0 p1 p2 de kde em mr h0 n0 _ T502.heap _
    rw [P502_0]
    exact ⟨rfl, N502⟩
set_option maxRecDepth 65536 in
set_option maxHeartbeats 40000000 in
theorem comes_1 {Post : Tables → Env → Array Value → State → Outcome → State → Prop} (hpost : ∀ tb e args s v u, (limb_1_1.after args s (.returned v) u = true ∧ limb_1_2.after args s (.returned v) u = true ∧ True) → ReturnedEndW s (.returned v) u (Jvm.fieldLocs frame_1_writes args s ++ Jvm.arrayLocs frame_1_arrays args s ++ Jvm.staticLocs frame_1_statics s) 144 3648 → Post tb e args s (.returned v) u) :
    ArmFor flags0 classFile x code maxLocals ret World_1 tables_1 room_1 Calls_1 rest_1 Pre_1 Post := by
  intro l hfl _ _ p e ha hc hk s m args below hf hA hF happ hP
  obtain ⟨hcalls, hrest, hpre⟩ := hP
  obtain ⟨-, -, -, hnamed, -, -, -, hat⟩ := (Spec.applies_iff hf).mp happ
  obtain ⟨hg, hn⟩ := and_e (Cond.before_iff.mp (show (Jvm.Cond.and given_1 narrow_1).before args s = true from hpre))
  obtain ⟨hcount, hg0⟩ := and_e hg
  obtain ⟨hv0, hg1⟩ := and_e hg0
  obtain ⟨hv1, hg2⟩ := and_e hg1
  obtain ⟨w0, w1, w2, rfl⟩ : ∃ w0 w1 w2 : Value, args = #[w0, w1, w2] := by
    have hs : args.size = 3 := by simpa [Cond.value, given_1] using hcount
    obtain ⟨L⟩ := args
    match L, hs with
    | [w0, w1, w2], _ => exact ⟨w0, w1, w2, rfl⟩
  have hw := fun d (hd : d ∈ tables_1) => atoms_spec (ws := Jvm.Cond.code x code maxLocals ret :: tables_1) hat d (List.mem_cons_of_mem _ hd)
  have hfit : Fit s := fun {y c} hc i hi => by
    obtain ⟨ha, rfl⟩ := Array.getElem?_eq_some_iff.mp hc
    have q := List.all_eq_true.mp ((Array.all_eq_true_iff_forall_mem.mp hF) _ (Array.getElem_mem ha)) i (List.mem_range.mpr hi)
    simpa [Array.getElem?_eq_getElem hi] using q
  obtain ⟨hsets, hown0⟩ := atoms_of _ (rest_1_c_eq ▸ (show rest_1_c.before _ s = true from hrest))
  obtain ⟨i0, ei0⟩ := is_v hv0
  obtain rfl : w0 = (.int i0) := Option.some.inj ei0
  obtain ⟨i1, ei1⟩ := is_v hv1
  obtain rfl : w1 = (.int i1) := Option.some.inj ei1
  obtain ⟨i2, ei2⟩ := is_v hg2
  obtain rfl : w2 = (.int i2) := Option.some.inj ei2
  have hz6 := Cond.before_iff.mp (hsets _ (List.mem_of_getElem? (i := 6) rfl))
  obtain ⟨de, ede⟩ := arr_v hz6
  obtain ⟨cl, hAr⟩ := Arr.start ede hz6
  obtain ⟨hl1, hl2⟩ := Jvm.Free.IntBox.length_fwd (hsets _ (List.mem_of_getElem? (i := 8) rfl)) ede hAr.1 hAr.2.1 hAr.2.2
  have hVd : Arv s s.heap de cl.cls (.object kOB) (0 : Int32) [] .null := Arv.start hfit hAr hl1 hl2 (by decide) rfl trivial
  have hSd := Sta.start ede (Or.inr ⟨hw _ (List.mem_of_getElem? (i := 2) rfl), (hsets _ (List.mem_of_getElem? (i := 2) rfl))⟩)
  have hEd := Exa.start ede (Cond.before_iff.mp (hsets _ (List.mem_of_getElem? (i := 7) rfl)))
  have hz11 := Cond.before_iff.mp (hsets _ (List.mem_of_getElem? (i := 11) rfl))
  obtain ⟨em, eem⟩ := exa_v hz11
  have hSe := Sta.start eem (Or.inl (hsets _ (List.mem_of_getElem? (i := 10) rfl)))
  have hEe := Exa.start eem hz11
  obtain ⟨⟨mc0, mk0, mr, hm1, hm2, hm3, -⟩, -⟩ := hcalls
  have hMi : own_Mi s kOA mr := ⟨_, _, hm1, hm2, hm3⟩
  obtain ⟨n, o, h1, h2, h3, _, L, rfl, ⟨rfl, N⟩, hq⟩ := rmm0 l s _ hw tables_1 i0 i1 i2 de cl.cls em mr s.heap s.heap.size (Nat.le_refl _) (Old.start s) hSd hVd hEd hSe hEe hMi p e ha hc hk s m _ below hf ((Spec.applies_iff_loose hf).mp happ).1 ⟨rfl, State.Warmed39.refl s, rfl⟩ trivial
  refine ⟨n, _, h1, h2, h3, hpost _ _ _ _ _ _ ⟨Cond.after_iff.mpr rfl, Cond.after_iff.mpr (eq_i res_at (Term.int_eval (1)) rfl), trivial⟩ ⟨hq.1, hq.2.1, hq.2.2.1, (hq.2.2.2.sift fun y hy => Or.inr (N y hy)).mono (by decide) (by decide)⟩⟩
theorem main_1_1 : Claimed_1_1 := comes_1 fun _ _ _ _ _ _ h hF => ⟨h.1, hF⟩
theorem main_1_2 : Claimed_1_2 := comes_1 fun _ _ _ _ _ _ h hF => ⟨h.2.1, hF⟩
end Jvm.Pilot.@@N@@
namespace Jvm.Pilot.@@N@@
open Jvm Jvm.ClassFile Sem Op Lib Jvm.Free Jvm.Stand Jvm.Pilot.@@N@@.Jvm.D
/-! MADE BY PROGRAM (witnessworld.py) out of the Statement's table words and the real class files: 44 classes; the members and pool entries that the words name. The judged class is class 1, her method 3. -/
namespace start1
open Jvm.ClassFile
def u (s : String) : CpInfo := .utf8 (stringToUtf16 s)
/-- a pool by its gaps: so many unusable entries, then the entry; so many at the end -/
def gap : Nat → List CpInfo → List CpInfo
  | 0, r => r
  | n + 1, r => .unusable :: gap n r
def poolList (es : List (Nat × CpInfo)) (last : Nat) : List CpInfo := es.foldr (fun e r => gap e.1 (e.2 :: r)) (gap last [])
def pool (es : List (Nat × CpInfo)) (last : Nat) : Array CpInfo := ⟨poolList es last⟩
def fileOf (pool : Array CpInfo) (this : Nat) (attrs : Array Attribute := #[]) (ms : Array MethodInfo := #[]) (fl : Nat := 33) (sup : Nat := 0) (ifs : Array Nat := #[]) (fds : Array FieldInfo := #[]) : ClassFile where
  minorVersion := 0
  majorVersion := 65
  constantPool := pool
  accessFlags := fl
  thisClass := this
  superClass := sup
  interfaces := ifs
  fields := fds
  methods := ms
  attributes := attrs
def plain (name : String) (sup : Option ClassId) : Class where
  name := name
  kind := .ordinary
  loader := none
  accessFlags := 33
  super := sup
  interfaces := #[]
  cf := none
  fields := #[]
  methods := #[]
  instanceTypes := #[]
  staticTypes := #[]
  resolved := #[]
  callSites := []
  init := .initialized
  statics := none
  mirror := none

def pool0 : Array CpInfo := pool [(5, u "<init>"), (0, u "()V"), (1, .class_ 10), (1, u "java/lang/Object"), (0, u "getClass"), (0, u "()Ljava/lang/Class;")] 111

def k0c0 : Code := { maxStack := 0, maxLocals := 1, code := object_method_1_code, exceptionTable := #[], attributes := #[] }
def k0m0 : Method := { name := "<init>", desc := "()V", sig := { parameters := [], returnType := none }, accessFlags := 1, code := some k0c0 }
def k0m1 : Method := { name := "getClass", desc := "()Ljava/lang/Class;", sig := { parameters := [], returnType := some (.object "java/lang/Class") }, accessFlags := 273, code := none }
/-- java/lang/Object -/
def k0 : Class := { plain "java/lang/Object" none with
  accessFlags := 33
  interfaces := #[]
  cf := some (fileOf pool0 8 #[] #[{ accessFlags := 1, nameIndex := 5, descriptorIndex := 6, attributes := #[] }, { accessFlags := 273, nameIndex := 11, descriptorIndex := 12, attributes := #[] }] 33 0 #[] #[])
  fields := #[]
  methods := #[k0m0, k0m1]
  instanceTypes := #[]
  staticTypes := #[]
  resolved := Array.replicate 124 none
  statics := none }

def pool1 : Array CpInfo := pool [(2, .class_ 4), (0, .nameAndType 5 6), (0, u "java/lang/Object"), (0, u "<init>"), (0, u "()V"), (0, .class_ 8), (0, u "java/util/ArrayList"), (0, .methodref 7 3), (0, .methodref 11 12), (0, .class_ 13), (0, .nameAndType 14 15), (0, u "com/example/matchwright/matchwright/core/InstanceVectorsScorePinLaw"), (0, u "val"), (0, u "(III)D"), (0, .methodref 17 18), (0, .class_ 19), (0, .nameAndType 20 21), (0, u "java/lang/Double"), (0, u "valueOf"), (0, u "(D)Ljava/lang/Double;"), (0, .interfaceMethodref 23 24), (0, .class_ 25), (0, .nameAndType 26 27), (0, u "java/util/List"), (0, u "add"), (0, u "(Ljava/lang/Object;)Z"), (0, .methodref 11 29), (0, .nameAndType 30 31), (0, u "vec"), (0, u "(III)Ljava/util/List;"), (0, .class_ 33), (0, u "com/example/matchwright/matchwright/core/MatchObject"), (0, .string 35), (0, u "p"), (0, .methodref 32 37), (0, .nameAndType 5 38), (0, u "(Ljava/lang/String;Ljava/util/List;)V"), (0, .string 40), (0, u "q"), (0, .class_ 42), (0, u "com/example/matchwright/matchwright/core/InstanceVectors"), (0, .methodref 41 44), (0, .nameAndType 5 45), (0, u "(Ljava/util/List;)V"), (0, .methodref 41 47), (0, .nameAndType 48 49), (0, u "score"), (0, u "(II)D"), (4, u "law"), (0, u "(III)Z")] 3

def k1m0 : Method := { name := "<init>", desc := "()V", sig := { parameters := [], returnType := none }, accessFlags := 1, code := none }
def k1c1 : Code := { maxStack := 6, maxLocals := 3, code := method_2_code, exceptionTable := #[], attributes := #[] }
def k1m1 : Method := { name := "val", desc := "(III)D", sig := { parameters := [.int, .int, .int], returnType := some .double }, accessFlags := 10, code := some k1c1 }
def k1c2 : Code := { maxStack := 5, maxLocals := 4, code := method_3_code, exceptionTable := #[], attributes := #[] }
def k1m2 : Method := { name := "vec", desc := "(III)Ljava/util/List;", sig := { parameters := [.int, .int, .int], returnType := some (.object "java/util/List") }, accessFlags := 10, code := some k1c2 }
def k1c3 : Code := { maxStack := 5, maxLocals := 12, code := code, exceptionTable := #[], attributes := #[] }
def k1m3 : Method := { name := "law", desc := "(III)Z", sig := { parameters := [.int, .int, .int], returnType := some .boolean }, accessFlags := 9, code := some k1c3 }
/-- com/example/matchwright/matchwright/core/InstanceVectorsScorePinLaw -/
def k1 : Class := { plain "com/example/matchwright/matchwright/core/InstanceVectorsScorePinLaw" (some 0) with
  accessFlags := 49
  interfaces := #[]
  cf := some (fileOf pool1 11 #[] #[{ accessFlags := 1, nameIndex := 5, descriptorIndex := 6, attributes := #[] }, { accessFlags := 10, nameIndex := 14, descriptorIndex := 15, attributes := #[] }, { accessFlags := 10, nameIndex := 30, descriptorIndex := 31, attributes := #[] }, { accessFlags := 9, nameIndex := 54, descriptorIndex := 55, attributes := #[] }] 49 2 #[] #[])
  fields := #[]
  methods := #[k1m0, k1m1, k1m2, k1m3]
  instanceTypes := #[]
  staticTypes := #[]
  resolved := Array.replicate 59 none
  statics := none }

def pool2 : Array CpInfo := pool [(8, .class_ 10), (1, u "java/lang/Iterable"), (24, .class_ 36), (0, u "java/lang/Object")] 25

/-- java/lang/Iterable -/
def k2 : Class := { plain "java/lang/Iterable" (some 0) with
  accessFlags := 1537
  interfaces := #[]
  cf := some (fileOf pool2 8 #[] #[] 1537 35 #[] #[])
  fields := #[]
  methods := #[]
  instanceTypes := #[]
  staticTypes := #[]
  resolved := Array.replicate 62 none
  statics := none }

def pool3 : Array CpInfo := pool [(10, .class_ 12), (1, u "java/util/Collection"), (0, u "toArray"), (16, u "()Z"), (29, .class_ 61), (0, u "java/lang/Object"), (0, .class_ 63), (0, u "java/lang/Iterable"), (2, u "isEmpty"), (3, u "()[Ljava/lang/Object;")] 44

def k3m0 : Method := { name := "isEmpty", desc := "()Z", sig := { parameters := [], returnType := some .boolean }, accessFlags := 1025, code := none }
def k3m1 : Method := { name := "toArray", desc := "()[Ljava/lang/Object;", sig := { parameters := [], returnType := some (.array (.object "java/lang/Object")) }, accessFlags := 1025, code := none }
/-- java/util/Collection -/
def k3 : Class := { plain "java/util/Collection" (some 0) with
  accessFlags := 1537
  interfaces := #[2]
  cf := some (fileOf pool3 10 #[] #[{ accessFlags := 1025, nameIndex := 66, descriptorIndex := 30, attributes := #[] }, { accessFlags := 1025, nameIndex := 13, descriptorIndex := 70, attributes := #[] }] 1537 60 #[62] #[])
  fields := #[]
  methods := #[k3m0, k3m1]
  instanceTypes := #[]
  staticTypes := #[]
  resolved := Array.replicate 115 none
  statics := none }

def pool4 : Array CpInfo := pool [(1, .methodref 2 3), (0, .class_ 4), (0, .nameAndType 5 6), (0, u "java/lang/Object"), (0, u "<init>"), (0, u "()V"), (1, .class_ 10), (1, u "java/util/AbstractCollection"), (0, u "size"), (0, u "()I"), (64, .class_ 78), (0, u "java/util/Collection")] 81

def k4c0 : Code := { maxStack := 1, maxLocals := 1, code := jdk_22_method_1_code, exceptionTable := #[], attributes := #[] }
def k4m0 : Method := { name := "<init>", desc := "()V", sig := { parameters := [], returnType := none }, accessFlags := 4, code := some k4c0 }
def k4m1 : Method := { name := "size", desc := "()I", sig := { parameters := [], returnType := some .int }, accessFlags := 1025, code := none }
/-- java/util/AbstractCollection -/
def k4 : Class := { plain "java/util/AbstractCollection" (some 0) with
  accessFlags := 1057
  interfaces := #[3]
  cf := some (fileOf pool4 8 #[] #[{ accessFlags := 4, nameIndex := 5, descriptorIndex := 6, attributes := #[] }, { accessFlags := 1025, nameIndex := 11, descriptorIndex := 12, attributes := #[] }] 1057 2 #[77] #[])
  fields := #[]
  methods := #[k4m0, k4m1]
  instanceTypes := #[]
  staticTypes := #[]
  resolved := Array.replicate 160 none
  statics := none }

def pool5 : Array CpInfo := pool [(8, .class_ 10), (1, u "java/util/SequencedCollection"), (15, .class_ 27), (0, u "java/lang/Object"), (0, .class_ 29), (0, u "java/util/Collection")] 27

/-- java/util/SequencedCollection -/
def k5 : Class := { plain "java/util/SequencedCollection" (some 0) with
  accessFlags := 1537
  interfaces := #[3]
  cf := some (fileOf pool5 8 #[] #[] 1537 26 #[28] #[])
  fields := #[]
  methods := #[]
  instanceTypes := #[]
  staticTypes := #[]
  resolved := Array.replicate 57 none
  statics := none }

def pool6 : Array CpInfo := pool [(8, .class_ 10), (1, u "java/util/List"), (7, u "()Z"), (29, u "<init>"), (11, u "add"), (3, u "(Ljava/lang/Object;)Z"), (2, u "isEmpty"), (7, u "get"), (0, u "(I)Ljava/lang/Object;"), (2, u "size"), (0, u "()I"), (7, u "of"), (2, .class_ 93), (1, u "java/util/ImmutableCollections"), (2, .class_ 97), (0, u "java/util/ImmutableCollections$List12"), (2, .methodref 96 101), (0, .nameAndType 48 102), (0, u "(Ljava/lang/Object;Ljava/lang/Object;)V"), (0, .class_ 104), (0, u "java/lang/Object"), (3, u "([Ljava/lang/Object;)Ljava/util/List;"), (0, .methodref 91 110), (0, .nameAndType 111 108), (0, u "listFromArray"), (0, .methodref 91 113), (0, .nameAndType 114 115), (0, u "listCopy"), (0, u "(Ljava/util/Collection;)Ljava/util/List;"), (4, .class_ 121), (0, u "java/util/SequencedCollection"), (1, u "iterator"), (0, u "()Ljava/util/Iterator;"), (109, u "copyOf")] 16

def k6m0 : Method := { name := "size", desc := "()I", sig := { parameters := [], returnType := some .int }, accessFlags := 1025, code := none }
def k6m1 : Method := { name := "isEmpty", desc := "()Z", sig := { parameters := [], returnType := some .boolean }, accessFlags := 1025, code := none }
def k6m2 : Method := { name := "iterator", desc := "()Ljava/util/Iterator;", sig := { parameters := [], returnType := some (.object "java/util/Iterator") }, accessFlags := 1025, code := none }
def k6m3 : Method := { name := "add", desc := "(Ljava/lang/Object;)Z", sig := { parameters := [(.object "java/lang/Object")], returnType := some .boolean }, accessFlags := 1025, code := none }
def k6m4 : Method := { name := "get", desc := "(I)Ljava/lang/Object;", sig := { parameters := [.int], returnType := some (.object "java/lang/Object") }, accessFlags := 1025, code := none }
def k6c5 : Code := { maxStack := 5, maxLocals := 2, code := jdk_40_method_47_code, exceptionTable := #[], attributes := #[] }
def k6m5 : Method := { name := "of", desc := "([Ljava/lang/Object;)Ljava/util/List;", sig := { parameters := [(.array (.object "java/lang/Object"))], returnType := some (.object "java/util/List") }, accessFlags := 137, code := some k6c5 }
def k6c6 : Code := { maxStack := 1, maxLocals := 1, code := jdk_40_method_48_code, exceptionTable := #[], attributes := #[] }
def k6m6 : Method := { name := "copyOf", desc := "(Ljava/util/Collection;)Ljava/util/List;", sig := { parameters := [(.object "java/util/Collection")], returnType := some (.object "java/util/List") }, accessFlags := 9, code := some k6c6 }
/-- java/util/List -/
def k6 : Class := { plain "java/util/List" (some 0) with
  accessFlags := 1537
  interfaces := #[5]
  cf := some (fileOf pool6 8 #[] #[{ accessFlags := 1025, nameIndex := 79, descriptorIndex := 80, attributes := #[] }, { accessFlags := 1025, nameIndex := 67, descriptorIndex := 18, attributes := #[] }, { accessFlags := 1025, nameIndex := 123, descriptorIndex := 124, attributes := #[] }, { accessFlags := 1025, nameIndex := 60, descriptorIndex := 64, attributes := #[] }, { accessFlags := 1025, nameIndex := 75, descriptorIndex := 76, attributes := #[] }, { accessFlags := 137, nameIndex := 88, descriptorIndex := 108, attributes := #[] }, { accessFlags := 9, nameIndex := 234, descriptorIndex := 115, attributes := #[] }] 1537 103 #[120] #[])
  fields := #[]
  methods := #[k6m0, k6m1, k6m2, k6m3, k6m4, k6m5, k6m6]
  instanceTypes := #[]
  staticTypes := #[]
  resolved := Array.replicate 251 none
  statics := none }

def pool7 : Array CpInfo := pool [(1, .methodref 2 3), (0, .class_ 4), (0, .nameAndType 5 6), (0, u "java/util/AbstractCollection"), (0, u "<init>"), (0, u "()V"), (0, .fieldref 8 9), (0, .class_ 10), (0, .nameAndType 11 12), (0, u "java/util/AbstractList"), (0, u "modCount"), (0, u "I"), (64, .class_ 78), (0, u "java/util/AbstractList$Itr"), (3, .class_ 83), (0, u "java/util/AbstractList$ListItr"), (9, .class_ 94), (0, u "java/util/AbstractList$RandomAccessSubList"), (3, .class_ 99), (0, u "java/util/AbstractList$SubList"), (33, .class_ 134), (0, u "java/util/List"), (73, .class_ 209), (0, u "java/util/AbstractList$SubList$1"), (0, .class_ 211), (0, u "java/util/AbstractList$RandomAccessSpliterator")] 6

def k7c0 : Code := { maxStack := 2, maxLocals := 1, code := jdk_39_method_1_code, exceptionTable := #[], attributes := #[] }
def k7m0 : Method := { name := "<init>", desc := "()V", sig := { parameters := [], returnType := none }, accessFlags := 4, code := some k7c0 }
/-- java/util/AbstractList -/
def k7 : Class := { plain "java/util/AbstractList" (some 4) with
  accessFlags := 1057
  interfaces := #[6]
  cf := some (fileOf pool7 8 #[.nestMembers #[93, 98, 208, 210, 82, 77]] #[{ accessFlags := 4, nameIndex := 5, descriptorIndex := 6, attributes := #[] }] 1057 2 #[133] #[{ accessFlags := 132, nameIndex := 11, descriptorIndex := 12, attributes := #[] }])
  fields := #[{ name := "modCount", type := .int, accessFlags := 132, slot := 0, constantValue := 0 }]
  methods := #[k7m0]
  instanceTypes := #[.int]
  staticTypes := #[]
  resolved := Array.replicate 218 none
  statics := none }

def pool8 : Array CpInfo := pool [(1, .class_ 2), (0, u "java/util/RandomAccess"), (0, .class_ 4), (0, u "java/lang/Object")] 2

/-- java/util/RandomAccess -/
def k8 : Class := { plain "java/util/RandomAccess" (some 0) with
  accessFlags := 1537
  interfaces := #[]
  cf := some (fileOf pool8 1 #[] #[] 1537 3 #[] #[])
  fields := #[]
  methods := #[]
  instanceTypes := #[]
  staticTypes := #[]
  resolved := Array.replicate 7 none
  statics := none }

def pool9 : Array CpInfo := pool [(1, .class_ 2), (0, u "java/lang/Cloneable"), (0, .class_ 4), (0, u "java/lang/Object")] 2

/-- java/lang/Cloneable -/
def k9 : Class := { plain "java/lang/Cloneable" (some 0) with
  accessFlags := 1537
  interfaces := #[]
  cf := some (fileOf pool9 1 #[] #[] 1537 3 #[] #[])
  fields := #[]
  methods := #[]
  instanceTypes := #[]
  staticTypes := #[]
  resolved := Array.replicate 7 none
  statics := none }

def pool10 : Array CpInfo := pool [(1, .class_ 2), (0, u "java/io/Serializable"), (0, .class_ 4), (0, u "java/lang/Object")] 2

/-- java/io/Serializable -/
def k10 : Class := { plain "java/io/Serializable" (some 0) with
  accessFlags := 1537
  interfaces := #[]
  cf := some (fileOf pool10 1 #[] #[] 1537 3 #[] #[])
  fields := #[]
  methods := #[]
  instanceTypes := #[]
  staticTypes := #[]
  resolved := Array.replicate 7 none
  statics := none }

def pool11 : Array CpInfo := pool [(1, .methodref 2 3), (0, .class_ 4), (0, .nameAndType 5 6), (0, u "java/util/AbstractList"), (0, u "<init>"), (0, u "()V"), (0, .class_ 8), (0, u "java/lang/Object"), (0, .fieldref 10 11), (0, .class_ 12), (0, .nameAndType 13 14), (0, u "java/util/ArrayList"), (0, u "elementData"), (0, u "[Ljava/lang/Object;"), (2, u "EMPTY_ELEMENTDATA"), (21, .fieldref 10 40), (0, .nameAndType 41 14), (0, u "DEFAULTCAPACITY_EMPTY_ELEMENTDATA"), (4, u "toArray"), (0, u "()[Ljava/lang/Object;"), (0, .fieldref 10 49), (0, .nameAndType 50 51), (0, u "size"), (0, u "I"), (6, .class_ 60), (1, u "java/util/Arrays"), (0, u "copyOf"), (1, .fieldref 10 64), (0, .nameAndType 65 51), (0, u "modCount"), (0, .methodref 58 67), (0, .nameAndType 61 68), (0, u "([Ljava/lang/Object;I)[Ljava/lang/Object;"), (0, .methodref 10 70), (0, .nameAndType 71 72), (0, u "grow"), (0, u "(I)[Ljava/lang/Object;"), (6, .methodref 80 81), (0, .class_ 82), (0, .nameAndType 83 84), (0, u "java/lang/Math"), (0, u "max"), (0, u "(II)I"), (11, u "(Ljava/lang/Object;)Z"), (21, .methodref 119 120), (0, .class_ 121), (0, .nameAndType 122 84), (0, u "java/util/Objects"), (0, u "checkIndex"), (0, .methodref 10 124), (0, .nameAndType 13 125), (0, u "(I)Ljava/lang/Object;"), (3, .methodref 10 130), (0, .nameAndType 71 47), (0, .methodref 10 132), (0, .nameAndType 133 134), (0, u "add"), (0, u "(Ljava/lang/Object;[Ljava/lang/Object;I)V"), (3, u "(I)V"), (9, .class_ 149), (0, u "java/util/List"), (16, u "iterator"), (0, u "()Ljava/util/Iterator;"), (5, u "()Z"), (12, u "()I"), (75, .class_ 263), (0, u "java/util/ArrayList$ListItr"), (3, .class_ 268), (0, u "java/util/ArrayList$Itr"), (0, .methodref 267 270), (0, .nameAndType 5 271), (0, u "(Ljava/util/ArrayList;)V"), (4, .class_ 277), (0, u "java/util/ArrayList$SubList"), (12, .class_ 291), (0, u "java/util/ArrayList$ArrayListSpliterator"), (37, .class_ 330), (0, u "java/util/RandomAccess"), (0, .class_ 332), (0, u "java/lang/Cloneable"), (0, .class_ 334), (0, u "java/io/Serializable"), (0, u "serialVersionUID"), (0, u "J"), (3, u "DEFAULT_CAPACITY"), (22, u "isEmpty"), (17, u "get"), (118, .class_ 501), (0, u "java/util/ArrayList$SubList$2"), (0, .class_ 503), (0, u "java/util/ArrayList$SubList$1")] 5

def k11c0 : Code := { maxStack := 4, maxLocals := 2, code := jdk_38_method_1_code, exceptionTable := #[], attributes := #[] }
def k11m0 : Method := { name := "<init>", desc := "(I)V", sig := { parameters := [.int], returnType := none }, accessFlags := 1, code := some k11c0 }
def k11c1 : Code := { maxStack := 2, maxLocals := 1, code := jdk_38_method_2_code, exceptionTable := #[], attributes := #[] }
def k11m1 : Method := { name := "<init>", desc := "()V", sig := { parameters := [], returnType := none }, accessFlags := 1, code := some k11c1 }
def k11c2 : Code := { maxStack := 4, maxLocals := 4, code := jdk_38_method_6_code, exceptionTable := #[], attributes := #[] }
def k11m2 : Method := { name := "grow", desc := "(I)[Ljava/lang/Object;", sig := { parameters := [.int], returnType := some (.array (.object "java/lang/Object")) }, accessFlags := 2, code := some k11c2 }
def k11c3 : Code := { maxStack := 3, maxLocals := 1, code := jdk_38_method_7_code, exceptionTable := #[], attributes := #[] }
def k11m3 : Method := { name := "grow", desc := "()[Ljava/lang/Object;", sig := { parameters := [], returnType := some (.array (.object "java/lang/Object")) }, accessFlags := 2, code := some k11c3 }
def k11c4 : Code := { maxStack := 1, maxLocals := 1, code := jdk_38_method_8_code, exceptionTable := #[], attributes := #[] }
def k11m4 : Method := { name := "size", desc := "()I", sig := { parameters := [], returnType := some .int }, accessFlags := 1, code := some k11c4 }
def k11c5 : Code := { maxStack := 1, maxLocals := 1, code := jdk_38_method_9_code, exceptionTable := #[], attributes := #[] }
def k11m5 : Method := { name := "isEmpty", desc := "()Z", sig := { parameters := [], returnType := some .boolean }, accessFlags := 1, code := some k11c5 }
def k11c6 : Code := { maxStack := 2, maxLocals := 1, code := jdk_38_method_16_code, exceptionTable := #[], attributes := #[] }
def k11m6 : Method := { name := "toArray", desc := "()[Ljava/lang/Object;", sig := { parameters := [], returnType := some (.array (.object "java/lang/Object")) }, accessFlags := 1, code := some k11c6 }
def k11c7 : Code := { maxStack := 2, maxLocals := 2, code := jdk_38_method_18_code, exceptionTable := #[], attributes := #[] }
def k11m7 : Method := { name := "elementData", desc := "(I)Ljava/lang/Object;", sig := { parameters := [.int], returnType := some (.object "java/lang/Object") }, accessFlags := 0, code := some k11c7 }
def k11c8 : Code := { maxStack := 2, maxLocals := 2, code := jdk_38_method_20_code, exceptionTable := #[], attributes := #[] }
def k11m8 : Method := { name := "get", desc := "(I)Ljava/lang/Object;", sig := { parameters := [.int], returnType := some (.object "java/lang/Object") }, accessFlags := 1, code := some k11c8 }
def k11c9 : Code := { maxStack := 3, maxLocals := 4, code := jdk_38_method_24_code, exceptionTable := #[], attributes := #[] }
def k11m9 : Method := { name := "add", desc := "(Ljava/lang/Object;[Ljava/lang/Object;I)V", sig := { parameters := [(.object "java/lang/Object"), (.array (.object "java/lang/Object")), .int], returnType := none }, accessFlags := 2, code := some k11c9 }
def k11c10 : Code := { maxStack := 4, maxLocals := 2, code := jdk_38_method_25_code, exceptionTable := #[], attributes := #[] }
def k11m10 : Method := { name := "add", desc := "(Ljava/lang/Object;)Z", sig := { parameters := [(.object "java/lang/Object")], returnType := some .boolean }, accessFlags := 1, code := some k11c10 }
def k11c11 : Code := { maxStack := 3, maxLocals := 1, code := jdk_38_method_55_code, exceptionTable := #[], attributes := #[] }
def k11m11 : Method := { name := "iterator", desc := "()Ljava/util/Iterator;", sig := { parameters := [], returnType := some (.object "java/util/Iterator") }, accessFlags := 1, code := some k11c11 }
/-- java/util/ArrayList -/
def k11 : Class := { plain "java/util/ArrayList" (some 7) with
  accessFlags := 33
  interfaces := #[6, 8, 9, 10]
  cf := some (fileOf pool11 10 #[.nestMembers #[290, 276, 500, 502, 262, 267]] #[{ accessFlags := 1, nameIndex := 5, descriptorIndex := 138, attributes := #[] }, { accessFlags := 1, nameIndex := 5, descriptorIndex := 6, attributes := #[] }, { accessFlags := 2, nameIndex := 71, descriptorIndex := 72, attributes := #[] }, { accessFlags := 2, nameIndex := 71, descriptorIndex := 47, attributes := #[] }, { accessFlags := 1, nameIndex := 50, descriptorIndex := 186, attributes := #[] }, { accessFlags := 1, nameIndex := 363, descriptorIndex := 173, attributes := #[] }, { accessFlags := 1, nameIndex := 46, descriptorIndex := 47, attributes := #[] }, { accessFlags := 0, nameIndex := 13, descriptorIndex := 125, attributes := #[] }, { accessFlags := 1, nameIndex := 381, descriptorIndex := 125, attributes := #[] }, { accessFlags := 2, nameIndex := 133, descriptorIndex := 134, attributes := #[] }, { accessFlags := 1, nameIndex := 133, descriptorIndex := 96, attributes := #[] }, { accessFlags := 1, nameIndex := 166, descriptorIndex := 167, attributes := #[] }] 33 2 #[148, 329, 331, 333] #[{ accessFlags := 26, nameIndex := 335, descriptorIndex := 336, attributes := #[] }, { accessFlags := 26, nameIndex := 340, descriptorIndex := 51, attributes := #[] }, { accessFlags := 26, nameIndex := 17, descriptorIndex := 14, attributes := #[] }, { accessFlags := 26, nameIndex := 41, descriptorIndex := 14, attributes := #[] }, { accessFlags := 128, nameIndex := 13, descriptorIndex := 14, attributes := #[] }, { accessFlags := 2, nameIndex := 50, descriptorIndex := 51, attributes := #[] }])
  fields := #[{ name := "serialVersionUID", type := .long, accessFlags := 26, slot := 0, constantValue := 0 }, { name := "DEFAULT_CAPACITY", type := .int, accessFlags := 26, slot := 1, constantValue := 0 }, { name := "EMPTY_ELEMENTDATA", type := (.array (.object "java/lang/Object")), accessFlags := 26, slot := 2, constantValue := 0 }, { name := "DEFAULTCAPACITY_EMPTY_ELEMENTDATA", type := (.array (.object "java/lang/Object")), accessFlags := 26, slot := 3, constantValue := 0 }, { name := "elementData", type := (.array (.object "java/lang/Object")), accessFlags := 128, slot := 1, constantValue := 0 }, { name := "size", type := .int, accessFlags := 2, slot := 2, constantValue := 0 }]
  methods := #[k11m0, k11m1, k11m2, k11m3, k11m4, k11m5, k11m6, k11m7, k11m8, k11m9, k11m10, k11m11]
  instanceTypes := #[.int, (.array (.object "java/lang/Object")), .int]
  staticTypes := #[.long, .int, (.array (.object "java/lang/Object")), (.array (.object "java/lang/Object"))]
  resolved := Array.replicate 509 none
  statics := some 0 }

def pool12 : Array CpInfo := pool [(1, .methodref 2 3), (0, .class_ 4), (0, .nameAndType 5 6), (0, u "java/lang/Object"), (0, u "<init>"), (0, u "()V"), (1, .class_ 10), (1, u "java/lang/Number"), (2, .class_ 14), (0, u "java/io/Serializable"), (0, u "serialVersionUID"), (0, u "J")] 20

def k12c0 : Code := { maxStack := 1, maxLocals := 1, code := jdk_18_method_1_code, exceptionTable := #[], attributes := #[] }
def k12m0 : Method := { name := "<init>", desc := "()V", sig := { parameters := [], returnType := none }, accessFlags := 1, code := some k12c0 }
/-- java/lang/Number -/
def k12 : Class := { plain "java/lang/Number" (some 0) with
  accessFlags := 1057
  interfaces := #[10]
  cf := some (fileOf pool12 8 #[] #[{ accessFlags := 1, nameIndex := 5, descriptorIndex := 6, attributes := #[] }] 1057 2 #[13] #[{ accessFlags := 26, nameIndex := 15, descriptorIndex := 16, attributes := #[] }])
  fields := #[{ name := "serialVersionUID", type := .long, accessFlags := 26, slot := 0, constantValue := 0 }]
  methods := #[k12m0]
  instanceTypes := #[]
  staticTypes := #[.long]
  resolved := Array.replicate 37 none
  statics := none }

def pool13 : Array CpInfo := pool [(1, .class_ 2), (0, u "java/lang/Comparable"), (0, .class_ 4), (0, u "java/lang/Object")] 7

/-- java/lang/Comparable -/
def k13 : Class := { plain "java/lang/Comparable" (some 0) with
  accessFlags := 1537
  interfaces := #[]
  cf := some (fileOf pool13 1 #[] #[] 1537 3 #[] #[])
  fields := #[]
  methods := #[]
  instanceTypes := #[]
  staticTypes := #[]
  resolved := Array.replicate 12 none
  statics := none }

def pool14 : Array CpInfo := pool [(1, .class_ 2), (0, u "java/lang/constant/Constable"), (0, .class_ 4), (0, u "java/lang/Object")] 6

/-- java/lang/constant/Constable -/
def k14 : Class := { plain "java/lang/constant/Constable" (some 0) with
  accessFlags := 1537
  interfaces := #[]
  cf := some (fileOf pool14 1 #[] #[] 1537 3 #[] #[])
  fields := #[]
  methods := #[]
  instanceTypes := #[]
  staticTypes := #[]
  resolved := Array.replicate 11 none
  statics := none }

def pool15 : Array CpInfo := pool [(1, .class_ 2), (0, u "java/lang/constant/ConstantDesc"), (0, .class_ 4), (0, u "java/lang/Object")] 32

/-- java/lang/constant/ConstantDesc -/
def k15 : Class := { plain "java/lang/constant/ConstantDesc" (some 0) with
  accessFlags := 1537
  interfaces := #[]
  cf := some (fileOf pool15 1 #[] #[] 1537 3 #[] #[])
  fields := #[]
  methods := #[]
  instanceTypes := #[]
  staticTypes := #[]
  resolved := Array.replicate 37 none
  statics := none }

def pool16 : Array CpInfo := pool [(1, .class_ 2), (0, u "java/lang/Double"), (10, u "isFinite"), (0, u "(D)Z"), (5, u "<init>"), (2, .class_ 25), (1, u "java/lang/Math"), (12, .methodref 23 39), (0, .nameAndType 40 41), (0, u "abs"), (0, u "(D)D"), (63, .methodref 1 106), (0, .nameAndType 20 107), (0, u "(D)V"), (3, .double 9218868437227405311), (1, .methodref 114 115), (0, .class_ 116), (0, .nameAndType 20 117), (0, u "java/lang/Number"), (0, u "()V"), (0, .fieldref 1 119), (0, .nameAndType 120 121), (0, u "value"), (0, u "D"), (51, u "TYPE"), (0, u "Ljava/lang/Class;"), (0, .class_ 176), (0, u "java/lang/Comparable"), (0, .class_ 178), (0, u "java/lang/constant/Constable"), (0, .class_ 180), (0, u "java/lang/constant/ConstantDesc"), (0, u "POSITIVE_INFINITY"), (3, u "NEGATIVE_INFINITY"), (2, u "NaN"), (2, u "MAX_VALUE"), (0, u "MIN_NORMAL"), (0, u "MIN_VALUE"), (2, u "SIZE"), (0, u "I"), (1, u "PRECISION"), (1, u "MAX_EXPONENT"), (1, u "MIN_EXPONENT"), (1, u "BYTES"), (3, u "serialVersionUID"), (0, u "J"), (14, u "valueOf"), (5, u "(D)Ljava/lang/Double;"), (23, u "doubleValue"), (0, u "()D")] 33

def k16c0 : Code := { maxStack := 4, maxLocals := 2, code := jdk_117_method_4_code, exceptionTable := #[], attributes := #[] }
def k16m0 : Method := { name := "valueOf", desc := "(D)Ljava/lang/Double;", sig := { parameters := [.double], returnType := some (.object "java/lang/Double") }, accessFlags := 9, code := some k16c0 }
def k16c1 : Code := { maxStack := 4, maxLocals := 2, code := jdk_117_method_8_code, exceptionTable := #[], attributes := #[] }
def k16m1 : Method := { name := "isFinite", desc := "(D)Z", sig := { parameters := [.double], returnType := some .boolean }, accessFlags := 9, code := some k16c1 }
def k16c2 : Code := { maxStack := 3, maxLocals := 3, code := jdk_117_method_9_code, exceptionTable := #[], attributes := #[] }
def k16m2 : Method := { name := "<init>", desc := "(D)V", sig := { parameters := [.double], returnType := none }, accessFlags := 1, code := some k16c2 }
def k16c3 : Code := { maxStack := 2, maxLocals := 1, code := jdk_117_method_19_code, exceptionTable := #[], attributes := #[] }
def k16m3 : Method := { name := "doubleValue", desc := "()D", sig := { parameters := [], returnType := some .double }, accessFlags := 1, code := some k16c3 }
/-- java/lang/Double -/
def k16 : Class := { plain "java/lang/Double" (some 12) with
  accessFlags := 49
  interfaces := #[13, 14, 15]
  cf := some (fileOf pool16 1 #[] #[{ accessFlags := 9, nameIndex := 225, descriptorIndex := 231, attributes := #[] }, { accessFlags := 9, nameIndex := 13, descriptorIndex := 14, attributes := #[] }, { accessFlags := 1, nameIndex := 20, descriptorIndex := 107, attributes := #[] }, { accessFlags := 1, nameIndex := 255, descriptorIndex := 256, attributes := #[] }] 49 114 #[175, 177, 179] #[{ accessFlags := 25, nameIndex := 181, descriptorIndex := 121, attributes := #[] }, { accessFlags := 25, nameIndex := 185, descriptorIndex := 121, attributes := #[] }, { accessFlags := 25, nameIndex := 188, descriptorIndex := 121, attributes := #[] }, { accessFlags := 25, nameIndex := 191, descriptorIndex := 121, attributes := #[] }, { accessFlags := 25, nameIndex := 192, descriptorIndex := 121, attributes := #[] }, { accessFlags := 25, nameIndex := 193, descriptorIndex := 121, attributes := #[] }, { accessFlags := 25, nameIndex := 196, descriptorIndex := 197, attributes := #[] }, { accessFlags := 25, nameIndex := 199, descriptorIndex := 197, attributes := #[] }, { accessFlags := 25, nameIndex := 201, descriptorIndex := 197, attributes := #[] }, { accessFlags := 25, nameIndex := 203, descriptorIndex := 197, attributes := #[] }, { accessFlags := 25, nameIndex := 205, descriptorIndex := 197, attributes := #[] }, { accessFlags := 25, nameIndex := 173, descriptorIndex := 174, attributes := #[] }, { accessFlags := 18, nameIndex := 120, descriptorIndex := 121, attributes := #[] }, { accessFlags := 26, nameIndex := 209, descriptorIndex := 210, attributes := #[] }])
  fields := #[{ name := "POSITIVE_INFINITY", type := .double, accessFlags := 25, slot := 0, constantValue := 0 }, { name := "NEGATIVE_INFINITY", type := .double, accessFlags := 25, slot := 1, constantValue := 0 }, { name := "NaN", type := .double, accessFlags := 25, slot := 2, constantValue := 0 }, { name := "MAX_VALUE", type := .double, accessFlags := 25, slot := 3, constantValue := 0 }, { name := "MIN_NORMAL", type := .double, accessFlags := 25, slot := 4, constantValue := 0 }, { name := "MIN_VALUE", type := .double, accessFlags := 25, slot := 5, constantValue := 0 }, { name := "SIZE", type := .int, accessFlags := 25, slot := 6, constantValue := 0 }, { name := "PRECISION", type := .int, accessFlags := 25, slot := 7, constantValue := 0 }, { name := "MAX_EXPONENT", type := .int, accessFlags := 25, slot := 8, constantValue := 0 }, { name := "MIN_EXPONENT", type := .int, accessFlags := 25, slot := 9, constantValue := 0 }, { name := "BYTES", type := .int, accessFlags := 25, slot := 10, constantValue := 0 }, { name := "TYPE", type := (.object "java/lang/Class"), accessFlags := 25, slot := 11, constantValue := 0 }, { name := "value", type := .double, accessFlags := 18, slot := 0, constantValue := 0 }, { name := "serialVersionUID", type := .long, accessFlags := 26, slot := 12, constantValue := 0 }]
  methods := #[k16m0, k16m1, k16m2, k16m3]
  instanceTypes := #[.double]
  staticTypes := #[.double, .double, .double, .double, .double, .double, .int, .int, .int, .int, .int, (.object "java/lang/Class"), .long]
  resolved := Array.replicate 290 none
  statics := none }

def pool17 : Array CpInfo := pool [(1, .class_ 2), (0, u "java/lang/Math"), (1, .class_ 6), (1, u "java/lang/Object"), (0, u "<init>"), (0, u "()V"), (5, u "(D)D"), (83, .class_ 100), (1, u "java/lang/Math$RandomNumberGeneratorHolder"), (23, u "abs"), (47, u "negativeZeroFloatBits"), (0, u "J"), (2, u "negativeZeroDoubleBits"), (21, u "max"), (2, u "min"), (43, u "$assertionsDisabled"), (0, u "Z"), (88, u "(II)I"), (2, u "twoToTheDoubleScaleDown"), (0, u "D"), (4, u "twoToTheDoubleScaleUp"), (9, u "E"), (3, u "PI"), (2, u "TAU"), (2, u "DEGREES_TO_RADIANS"), (0, u "RADIANS_TO_DEGREES"), (39, u "toIntExact"), (0, u "(J)I")] 53

def k17m0 : Method := { name := "<init>", desc := "()V", sig := { parameters := [], returnType := none }, accessFlags := 2, code := none }
def k17c1 : Code := { maxStack := 4, maxLocals := 2, code := jdk_29_method_43_code, exceptionTable := #[], attributes := #[] }
def k17m1 : Method := { name := "toIntExact", desc := "(J)I", sig := { parameters := [.long], returnType := some .int }, accessFlags := 9, code := some k17c1 }
def k17c2 : Code := { maxStack := 4, maxLocals := 2, code := jdk_29_method_64_code, exceptionTable := #[], attributes := #[] }
def k17m2 : Method := { name := "abs", desc := "(D)D", sig := { parameters := [.double], returnType := some .double }, accessFlags := 9, code := some k17c2 }
def k17c3 : Code := { maxStack := 2, maxLocals := 2, code := jdk_29_method_65_code, exceptionTable := #[], attributes := #[] }
def k17m3 : Method := { name := "max", desc := "(II)I", sig := { parameters := [.int, .int], returnType := some .int }, accessFlags := 9, code := some k17c3 }
def k17c4 : Code := { maxStack := 2, maxLocals := 2, code := jdk_29_method_69_code, exceptionTable := #[], attributes := #[] }
def k17m4 : Method := { name := "min", desc := "(II)I", sig := { parameters := [.int, .int], returnType := some .int }, accessFlags := 9, code := some k17c4 }
/-- java/lang/Math -/
def k17 : Class := { plain "java/lang/Math" (some 0) with
  accessFlags := 49
  interfaces := #[]
  cf := some (fileOf pool17 1 #[.nestMembers #[98]] #[{ accessFlags := 2, nameIndex := 7, descriptorIndex := 8, attributes := #[] }, { accessFlags := 9, nameIndex := 405, descriptorIndex := 406, attributes := #[] }, { accessFlags := 9, nameIndex := 124, descriptorIndex := 14, attributes := #[] }, { accessFlags := 9, nameIndex := 198, descriptorIndex := 335, attributes := #[] }, { accessFlags := 9, nameIndex := 201, descriptorIndex := 335, attributes := #[] }] 49 4 #[] #[{ accessFlags := 25, nameIndex := 354, descriptorIndex := 339, attributes := #[] }, { accessFlags := 25, nameIndex := 358, descriptorIndex := 339, attributes := #[] }, { accessFlags := 25, nameIndex := 361, descriptorIndex := 339, attributes := #[] }, { accessFlags := 26, nameIndex := 364, descriptorIndex := 339, attributes := #[] }, { accessFlags := 26, nameIndex := 365, descriptorIndex := 339, attributes := #[] }, { accessFlags := 26, nameIndex := 172, descriptorIndex := 173, attributes := #[] }, { accessFlags := 26, nameIndex := 176, descriptorIndex := 173, attributes := #[] }, { accessFlags := 8, nameIndex := 344, descriptorIndex := 339, attributes := #[] }, { accessFlags := 8, nameIndex := 338, descriptorIndex := 339, attributes := #[] }, { accessFlags := 4120, nameIndex := 245, descriptorIndex := 246, attributes := #[] }])
  fields := #[{ name := "E", type := .double, accessFlags := 25, slot := 0, constantValue := 0 }, { name := "PI", type := .double, accessFlags := 25, slot := 1, constantValue := 0 }, { name := "TAU", type := .double, accessFlags := 25, slot := 2, constantValue := 0 }, { name := "DEGREES_TO_RADIANS", type := .double, accessFlags := 26, slot := 3, constantValue := 0 }, { name := "RADIANS_TO_DEGREES", type := .double, accessFlags := 26, slot := 4, constantValue := 0 }, { name := "negativeZeroFloatBits", type := .long, accessFlags := 26, slot := 5, constantValue := 0 }, { name := "negativeZeroDoubleBits", type := .long, accessFlags := 26, slot := 6, constantValue := 0 }, { name := "twoToTheDoubleScaleUp", type := .double, accessFlags := 8, slot := 7, constantValue := 0 }, { name := "twoToTheDoubleScaleDown", type := .double, accessFlags := 8, slot := 8, constantValue := 0 }, { name := "$assertionsDisabled", type := .boolean, accessFlags := 4120, slot := 9, constantValue := 0 }]
  methods := #[k17m0, k17m1, k17m2, k17m3, k17m4]
  instanceTypes := #[]
  staticTypes := #[.double, .double, .double, .double, .double, .long, .long, .double, .double, .boolean]
  resolved := Array.replicate 460 none
  statics := none }

def pool18 : Array CpInfo := pool [(1, .methodref 2 3), (0, .class_ 4), (0, .nameAndType 5 6), (0, u "java/lang/Object"), (0, u "<init>"), (0, u "()V"), (0, .class_ 8), (0, u "java/lang/Record")] 13

def k18c0 : Code := { maxStack := 1, maxLocals := 1, code := jdk_30_method_1_code, exceptionTable := #[], attributes := #[] }
def k18m0 : Method := { name := "<init>", desc := "()V", sig := { parameters := [], returnType := none }, accessFlags := 4, code := some k18c0 }
/-- java/lang/Record -/
def k18 : Class := { plain "java/lang/Record" (some 0) with
  accessFlags := 1057
  interfaces := #[]
  cf := some (fileOf pool18 7 #[] #[{ accessFlags := 4, nameIndex := 5, descriptorIndex := 6, attributes := #[] }] 1057 2 #[] #[])
  fields := #[]
  methods := #[k18m0]
  instanceTypes := #[]
  staticTypes := #[]
  resolved := Array.replicate 22 none
  statics := none }

def pool19 : Array CpInfo := pool [(1, .methodref 2 3), (0, .class_ 4), (0, .nameAndType 5 6), (0, u "java/lang/Record"), (0, u "<init>"), (0, u "()V"), (0, .string 8), (0, u "name"), (0, .methodref 10 11), (0, .class_ 12), (0, .nameAndType 13 14), (0, u "java/util/Objects"), (0, u "requireNonNull"), (0, u "(Ljava/lang/Object;Ljava/lang/String;)Ljava/lang/Object;"), (0, .interfaceMethodref 16 17), (0, .class_ 18), (0, .nameAndType 19 20), (0, u "java/util/List"), (0, u "isEmpty"), (0, u "()Z"), (9, .interfaceMethodref 16 31), (0, .nameAndType 32 33), (0, u "get"), (0, u "(I)Ljava/lang/Object;"), (0, .interfaceMethodref 16 35), (0, .nameAndType 36 37), (0, u "size"), (0, u "()I"), (0, .class_ 39), (0, u "java/util/ArrayList"), (0, .methodref 38 41), (0, .nameAndType 5 42), (0, u "(I)V"), (0, .interfaceMethodref 16 44), (0, .nameAndType 45 46), (0, u "iterator"), (0, u "()Ljava/util/Iterator;"), (0, .interfaceMethodref 48 49), (0, .class_ 50), (0, .nameAndType 51 20), (0, u "java/util/Iterator"), (0, u "hasNext"), (0, .interfaceMethodref 48 53), (0, .nameAndType 54 55), (0, u "next"), (0, u "()Ljava/lang/Object;"), (3, .class_ 60), (0, u "java/lang/Double"), (0, .methodref 59 62), (0, .nameAndType 63 64), (0, u "doubleValue"), (0, u "()D"), (0, .methodref 59 66), (0, .nameAndType 67 68), (0, u "isFinite"), (0, u "(D)Z"), (3, .interfaceMethodref 16 73), (0, .nameAndType 74 75), (0, u "copyOf"), (0, u "(Ljava/util/Collection;)Ljava/util/List;"), (0, .interfaceMethodref 16 77), (0, .nameAndType 78 79), (0, u "add"), (0, u "(Ljava/lang/Object;)Z"), (0, .fieldref 81 82), (0, .class_ 83), (0, .nameAndType 8 84), (0, u "com/example/matchwright/matchwright/core/MatchObject"), (0, u "Ljava/lang/String;"), (0, .fieldref 81 86), (0, .nameAndType 87 88), (0, u "vectors"), (0, u "Ljava/util/List;"), (2, u "()Ljava/util/List;"), (20, u "(Ljava/lang/String;Ljava/util/List;)V")] 46

def k19c0 : Code := { maxStack := 5, maxLocals := 10, code := prog_29_method_1_code, exceptionTable := #[], attributes := #[] }
def k19m0 : Method := { name := "<init>", desc := "(Ljava/lang/String;Ljava/util/List;)V", sig := { parameters := [(.object "java/lang/String"), (.object "java/util/List")], returnType := none }, accessFlags := 1, code := some k19c0 }
def k19c1 : Code := { maxStack := 1, maxLocals := 1, code := prog_29_method_7_code, exceptionTable := #[], attributes := #[] }
def k19m1 : Method := { name := "vectors", desc := "()Ljava/util/List;", sig := { parameters := [], returnType := some (.object "java/util/List") }, accessFlags := 1, code := some k19c1 }
/-- com/example/matchwright/matchwright/core/MatchObject -/
def k19 : Class := { plain "com/example/matchwright/matchwright/core/MatchObject" (some 18) with
  accessFlags := 49
  interfaces := #[]
  cf := some (fileOf pool19 81 #[] #[{ accessFlags := 1, nameIndex := 5, descriptorIndex := 112, attributes := #[] }, { accessFlags := 1, nameIndex := 87, descriptorIndex := 91, attributes := #[] }] 49 2 #[] #[{ accessFlags := 18, nameIndex := 8, descriptorIndex := 84, attributes := #[] }, { accessFlags := 18, nameIndex := 87, descriptorIndex := 88, attributes := #[] }])
  fields := #[{ name := "name", type := (.object "java/lang/String"), accessFlags := 18, slot := 0, constantValue := 0 }, { name := "vectors", type := (.object "java/util/List"), accessFlags := 18, slot := 1, constantValue := 0 }]
  methods := #[k19m0, k19m1]
  instanceTypes := #[(.object "java/lang/String"), (.object "java/util/List")]
  staticTypes := #[]
  resolved := Array.replicate 159 none
  statics := none }

def pool20 : Array CpInfo := pool [(2, .class_ 4), (1, u "java/lang/CharSequence"), (42, .class_ 48), (0, u "java/lang/CharSequence$1CodePointIterator"), (10, .class_ 60), (0, u "java/lang/CharSequence$1CharIterator"), (5, .class_ 67), (0, u "java/lang/Object")] 63

/-- java/lang/CharSequence -/
def k20 : Class := { plain "java/lang/CharSequence" (some 0) with
  accessFlags := 1537
  interfaces := #[]
  cf := some (fileOf pool20 2 #[.nestMembers #[47, 59]] #[] 1537 66 #[] #[])
  fields := #[]
  methods := #[]
  instanceTypes := #[]
  staticTypes := #[]
  resolved := Array.replicate 131 none
  statics := none }

def pool21 : Array CpInfo := pool [(2, .class_ 4), (1, u "java/lang/Object"), (0, u "<init>"), (0, u "()V"), (3, .class_ 12), (1, u "java/lang/String"), (0, u "value"), (0, u "[B"), (2, u "coder"), (0, u "B"), (2, u "hash"), (0, u "I"), (2, u "hashIsZero"), (0, u "Z"), (13, u "COMPACT_STRINGS"), (534, .class_ 576), (0, u "java/lang/CharSequence"), (22, u "CASE_INSENSITIVE_ORDER"), (0, u "Ljava/util/Comparator;"), (500, u "serialPersistentFields"), (0, u "[Ljava/io/ObjectStreamField;"), (0, .class_ 1104), (0, u "java/lang/String$CaseInsensitiveComparator"), (1, .class_ 1107), (0, u "java/io/Serializable"), (0, .class_ 1109), (0, u "java/lang/Comparable"), (0, .class_ 1111), (0, u "java/lang/constant/Constable"), (0, .class_ 1113), (0, u "java/lang/constant/ConstantDesc"), (2, u "serialVersionUID"), (0, u "J"), (3, u "REPL"), (0, u "C"), (2, u "LATIN1"), (1, u "UTF16")] 323

def k21m0 : Method := { name := "<init>", desc := "()V", sig := { parameters := [], returnType := none }, accessFlags := 1, code := none }
/-- java/lang/String -/
def k21 : Class := { plain "java/lang/String" (some 0) with
  accessFlags := 49
  interfaces := #[10, 13, 20, 14, 15]
  cf := some (fileOf pool21 10 #[.nestMembers #[1103]] #[{ accessFlags := 1, nameIndex := 5, descriptorIndex := 6, attributes := #[] }] 49 2 #[1106, 1108, 575, 1110, 1112] #[{ accessFlags := 18, nameIndex := 13, descriptorIndex := 14, attributes := #[] }, { accessFlags := 18, nameIndex := 17, descriptorIndex := 18, attributes := #[] }, { accessFlags := 2, nameIndex := 21, descriptorIndex := 22, attributes := #[] }, { accessFlags := 2, nameIndex := 25, descriptorIndex := 26, attributes := #[] }, { accessFlags := 26, nameIndex := 1116, descriptorIndex := 1117, attributes := #[] }, { accessFlags := 24, nameIndex := 40, descriptorIndex := 26, attributes := #[] }, { accessFlags := 26, nameIndex := 1101, descriptorIndex := 1102, attributes := #[] }, { accessFlags := 26, nameIndex := 1121, descriptorIndex := 1122, attributes := #[] }, { accessFlags := 25, nameIndex := 599, descriptorIndex := 600, attributes := #[] }, { accessFlags := 24, nameIndex := 1125, descriptorIndex := 18, attributes := #[] }, { accessFlags := 24, nameIndex := 1127, descriptorIndex := 18, attributes := #[] }])
  fields := #[{ name := "value", type := (.array .byte), accessFlags := 18, slot := 0, constantValue := 0 }, { name := "coder", type := .byte, accessFlags := 18, slot := 1, constantValue := 0 }, { name := "hash", type := .int, accessFlags := 2, slot := 2, constantValue := 0 }, { name := "hashIsZero", type := .boolean, accessFlags := 2, slot := 3, constantValue := 0 }, { name := "serialVersionUID", type := .long, accessFlags := 26, slot := 0, constantValue := 0 }, { name := "COMPACT_STRINGS", type := .boolean, accessFlags := 24, slot := 1, constantValue := 0 }, { name := "serialPersistentFields", type := (.array (.object "java/io/ObjectStreamField")), accessFlags := 26, slot := 2, constantValue := 0 }, { name := "REPL", type := .char, accessFlags := 26, slot := 3, constantValue := 0 }, { name := "CASE_INSENSITIVE_ORDER", type := (.object "java/util/Comparator"), accessFlags := 25, slot := 4, constantValue := 0 }, { name := "LATIN1", type := .byte, accessFlags := 24, slot := 5, constantValue := 0 }, { name := "UTF16", type := .byte, accessFlags := 24, slot := 6, constantValue := 0 }]
  methods := #[k21m0]
  instanceTypes := #[(.array .byte), .byte, .int, .boolean]
  staticTypes := #[.long, .boolean, (.array (.object "java/io/ObjectStreamField")), .char, (.object "java/util/Comparator"), .byte, .byte]
  resolved := Array.replicate 1451 none
  statics := none }

def pool22 : Array CpInfo := pool [(2, .class_ 4), (1, u "java/lang/Object"), (0, u "<init>"), (0, u "()V"), (35, .class_ 44), (1, u "java/util/Objects"), (0, u "requireNonNull"), (0, u "(Ljava/lang/Object;)Ljava/lang/Object;"), (47, u "(Ljava/lang/Object;Ljava/lang/String;)Ljava/lang/Object;"), (10, .methodref 106 107), (0, .class_ 108), (0, .nameAndType 109 110), (0, u "jdk/internal/util/Preconditions"), (0, u "checkIndex"), (0, u "(IILjava/util/function/BiFunction;)I"), (60, u "(II)I")] 12

def k22m0 : Method := { name := "<init>", desc := "()V", sig := { parameters := [], returnType := none }, accessFlags := 2, code := none }
def k22c1 : Code := { maxStack := 2, maxLocals := 1, code := jdk_31_method_10_code, exceptionTable := #[], attributes := #[] }
def k22m1 : Method := { name := "requireNonNull", desc := "(Ljava/lang/Object;)Ljava/lang/Object;", sig := { parameters := [(.object "java/lang/Object")], returnType := some (.object "java/lang/Object") }, accessFlags := 9, code := some k22c1 }
def k22c2 : Code := { maxStack := 3, maxLocals := 2, code := jdk_31_method_11_code, exceptionTable := #[], attributes := #[] }
def k22m2 : Method := { name := "requireNonNull", desc := "(Ljava/lang/Object;Ljava/lang/String;)Ljava/lang/Object;", sig := { parameters := [(.object "java/lang/Object"), (.object "java/lang/String")], returnType := some (.object "java/lang/Object") }, accessFlags := 9, code := some k22c2 }
def k22c3 : Code := { maxStack := 3, maxLocals := 2, code := jdk_31_method_17_code, exceptionTable := #[], attributes := #[] }
def k22m3 : Method := { name := "checkIndex", desc := "(II)I", sig := { parameters := [.int, .int], returnType := some .int }, accessFlags := 9, code := some k22c3 }
/-- java/util/Objects -/
def k22 : Class := { plain "java/util/Objects" (some 0) with
  accessFlags := 49
  interfaces := #[]
  cf := some (fileOf pool22 42 #[] #[{ accessFlags := 2, nameIndex := 5, descriptorIndex := 6, attributes := #[] }, { accessFlags := 9, nameIndex := 45, descriptorIndex := 46, attributes := #[] }, { accessFlags := 9, nameIndex := 45, descriptorIndex := 94, attributes := #[] }, { accessFlags := 9, nameIndex := 109, descriptorIndex := 171, attributes := #[] }] 49 2 #[] #[])
  fields := #[]
  methods := #[k22m0, k22m1, k22m2, k22m3]
  instanceTypes := #[]
  staticTypes := #[]
  resolved := Array.replicate 184 none
  statics := none }

def pool23 : Array CpInfo := pool [(2, .class_ 4), (1, u "java/lang/Object"), (0, u "<init>"), (0, u "()V"), (17, .class_ 26), (1, u "jdk/internal/util/Preconditions"), (6, u "checkIndex"), (21, .class_ 56), (0, u "jdk/internal/util/Preconditions$4"), (57, .class_ 115), (0, u "jdk/internal/util/Preconditions$1"), (7, u "SIOOBE_FORMATTER"), (0, u "Ljava/util/function/BiFunction;"), (0, .class_ 126), (0, u "jdk/internal/util/Preconditions$2"), (3, u "AIOOBE_FORMATTER"), (0, .class_ 132), (0, u "jdk/internal/util/Preconditions$3"), (3, u "IOOBE_FORMATTER"), (41, u "(IILjava/util/function/BiFunction;)I")] 15

def k23m0 : Method := { name := "<init>", desc := "()V", sig := { parameters := [], returnType := none }, accessFlags := 1, code := none }
def k23c1 : Code := { maxStack := 3, maxLocals := 3, code := jdk_41_method_11_code, exceptionTable := #[], attributes := #[] }
def k23m1 : Method := { name := "checkIndex", desc := "(IILjava/util/function/BiFunction;)I", sig := { parameters := [.int, .int, (.object "java/util/function/BiFunction")], returnType := some .int }, accessFlags := 9, code := some k23c1 }
/-- jdk/internal/util/Preconditions -/
def k23 : Class := { plain "jdk/internal/util/Preconditions" (some 0) with
  accessFlags := 33
  interfaces := #[]
  cf := some (fileOf pool23 24 #[.nestMembers #[55, 131, 125, 114]] #[{ accessFlags := 1, nameIndex := 5, descriptorIndex := 6, attributes := #[] }, { accessFlags := 9, nameIndex := 33, descriptorIndex := 178, attributes := #[] }] 33 2 #[] #[{ accessFlags := 25, nameIndex := 123, descriptorIndex := 124, attributes := #[] }, { accessFlags := 25, nameIndex := 130, descriptorIndex := 124, attributes := #[] }, { accessFlags := 25, nameIndex := 136, descriptorIndex := 124, attributes := #[] }])
  fields := #[{ name := "SIOOBE_FORMATTER", type := (.object "java/util/function/BiFunction"), accessFlags := 25, slot := 0, constantValue := 0 }, { name := "AIOOBE_FORMATTER", type := (.object "java/util/function/BiFunction"), accessFlags := 25, slot := 1, constantValue := 0 }, { name := "IOOBE_FORMATTER", type := (.object "java/util/function/BiFunction"), accessFlags := 25, slot := 2, constantValue := 0 }]
  methods := #[k23m0, k23m1]
  instanceTypes := #[]
  staticTypes := #[(.object "java/util/function/BiFunction"), (.object "java/util/function/BiFunction"), (.object "java/util/function/BiFunction")]
  resolved := Array.replicate 194 none
  statics := none }

def pool24 : Array CpInfo := pool [(16, .class_ 18), (1, u "java/util/Iterator"), (0, u "hasNext"), (0, u "()Z"), (2, u "next"), (0, u "()Ljava/lang/Object;"), (6, .class_ 32), (0, u "java/lang/Object")] 20

def k24m0 : Method := { name := "hasNext", desc := "()Z", sig := { parameters := [], returnType := some .boolean }, accessFlags := 1025, code := none }
def k24m1 : Method := { name := "next", desc := "()Ljava/lang/Object;", sig := { parameters := [], returnType := some (.object "java/lang/Object") }, accessFlags := 1025, code := none }
/-- java/util/Iterator -/
def k24 : Class := { plain "java/util/Iterator" (some 0) with
  accessFlags := 1537
  interfaces := #[]
  cf := some (fileOf pool24 16 #[] #[{ accessFlags := 1025, nameIndex := 19, descriptorIndex := 20, attributes := #[] }, { accessFlags := 1025, nameIndex := 23, descriptorIndex := 24, attributes := #[] }] 1537 31 #[] #[])
  fields := #[]
  methods := #[k24m0, k24m1]
  instanceTypes := #[]
  staticTypes := #[]
  resolved := Array.replicate 53 none
  statics := none }

def pool25 : Array CpInfo := pool [(1, .fieldref 2 3), (0, .class_ 4), (0, .nameAndType 5 6), (0, u "java/util/ArrayList$Itr"), (0, u "this$0"), (0, u "Ljava/util/ArrayList;"), (0, .methodref 8 9), (0, .class_ 10), (0, .nameAndType 11 12), (0, u "java/lang/Object"), (0, u "<init>"), (0, u "()V"), (0, .fieldref 2 14), (0, .nameAndType 15 16), (0, u "lastRet"), (0, u "I"), (0, .fieldref 18 19), (0, .class_ 20), (0, .nameAndType 21 16), (0, u "java/util/ArrayList"), (0, u "modCount"), (0, .fieldref 2 23), (0, .nameAndType 24 16), (0, u "expectedModCount"), (0, .fieldref 2 26), (0, .nameAndType 27 16), (0, u "cursor"), (0, .fieldref 18 29), (0, .nameAndType 30 16), (0, u "size"), (0, .methodref 2 32), (0, .nameAndType 33 12), (0, u "checkForComodification"), (3, .fieldref 18 38), (0, .nameAndType 39 40), (0, u "elementData"), (0, u "[Ljava/lang/Object;"), (28, .class_ 70), (0, u "java/util/Iterator"), (0, u "(Ljava/util/ArrayList;)V"), (8, u "hasNext"), (0, u "()Z"), (1, u "next"), (0, u "()Ljava/lang/Object;")] 19

def k25c0 : Code := { maxStack := 2, maxLocals := 2, code := jdk_49_method_1_code, exceptionTable := #[], attributes := #[] }
def k25m0 : Method := { name := "<init>", desc := "(Ljava/util/ArrayList;)V", sig := { parameters := [(.object "java/util/ArrayList")], returnType := none }, accessFlags := 0, code := some k25c0 }
def k25c1 : Code := { maxStack := 2, maxLocals := 1, code := jdk_49_method_2_code, exceptionTable := #[], attributes := #[] }
def k25m1 : Method := { name := "hasNext", desc := "()Z", sig := { parameters := [], returnType := some .boolean }, accessFlags := 1, code := some k25c1 }
def k25c2 : Code := { maxStack := 4, maxLocals := 3, code := jdk_49_method_3_code, exceptionTable := #[], attributes := #[] }
def k25m2 : Method := { name := "next", desc := "()Ljava/lang/Object;", sig := { parameters := [], returnType := some (.object "java/lang/Object") }, accessFlags := 1, code := some k25c2 }
def k25c3 : Code := { maxStack := 2, maxLocals := 1, code := jdk_49_method_6_code, exceptionTable := #[], attributes := #[] }
def k25m3 : Method := { name := "checkForComodification", desc := "()V", sig := { parameters := [], returnType := none }, accessFlags := 16, code := some k25c3 }
/-- java/util/ArrayList$Itr -/
def k25 : Class := { plain "java/util/ArrayList$Itr" (some 0) with
  accessFlags := 32
  interfaces := #[24]
  cf := some (fileOf pool25 2 #[.nestHost 18] #[{ accessFlags := 0, nameIndex := 11, descriptorIndex := 71, attributes := #[] }, { accessFlags := 1, nameIndex := 80, descriptorIndex := 81, attributes := #[] }, { accessFlags := 1, nameIndex := 83, descriptorIndex := 84, attributes := #[] }, { accessFlags := 16, nameIndex := 33, descriptorIndex := 12, attributes := #[] }] 32 8 #[69] #[{ accessFlags := 0, nameIndex := 27, descriptorIndex := 16, attributes := #[] }, { accessFlags := 0, nameIndex := 15, descriptorIndex := 16, attributes := #[] }, { accessFlags := 0, nameIndex := 24, descriptorIndex := 16, attributes := #[] }, { accessFlags := 4112, nameIndex := 5, descriptorIndex := 6, attributes := #[] }])
  fields := #[{ name := "cursor", type := .int, accessFlags := 0, slot := 0, constantValue := 0 }, { name := "lastRet", type := .int, accessFlags := 0, slot := 1, constantValue := 0 }, { name := "expectedModCount", type := .int, accessFlags := 0, slot := 2, constantValue := 0 }, { name := "this$0", type := (.object "java/util/ArrayList"), accessFlags := 4112, slot := 3, constantValue := 0 }]
  methods := #[k25m0, k25m1, k25m2, k25m3]
  instanceTypes := #[.int, .int, .int, (.object "java/util/ArrayList")]
  staticTypes := #[]
  resolved := Array.replicate 104 none
  statics := none }

def pool26 : Array CpInfo := pool [(2, .class_ 4), (1, u "java/lang/Object"), (0, u "<init>"), (0, u "()V"), (3, .class_ 11), (0, u "java/util/ImmutableCollections$List12"), (0, .class_ 13), (0, u "java/util/ImmutableCollections$ListN"), (3, u "Z"), (0, .class_ 19), (0, u "java/util/List"), (0, .interfaceMethodref 21 22), (0, .class_ 23), (0, .nameAndType 24 25), (0, u "java/util/Collection"), (0, u "isEmpty"), (0, u "()Z"), (2, u "of"), (1, .interfaceMethodref 21 31), (0, .nameAndType 32 33), (0, u "toArray"), (0, u "()[Ljava/lang/Object;"), (0, .interfaceMethodref 18 35), (0, .nameAndType 28 36), (0, u "([Ljava/lang/Object;)Ljava/util/List;"), (0, .methodref 38 39), (0, .class_ 40), (0, .nameAndType 41 42), (0, u "java/util/Objects"), (0, u "requireNonNull"), (0, u "(Ljava/lang/Object;)Ljava/lang/Object;"), (0, .methodref 12 44), (0, .nameAndType 5 45), (0, u "([Ljava/lang/Object;Z)V"), (1, .class_ 49), (1, u "java/util/ImmutableCollections"), (0, u "$assertionsDisabled"), (5, u "[Ljava/lang/Object;"), (5, u "EMPTY_LIST"), (0, u "Ljava/util/ImmutableCollections$ListN;"), (8, u "EMPTY_LIST_NULLS"), (22, u "SALT32L"), (0, u "J"), (2, u "REVERSE"), (6, u "archivedObjects"), (2, u "EMPTY"), (0, u "Ljava/lang/Object;"), (0, .class_ 112), (0, u "java/util/ImmutableCollections$SetN"), (5, u "EMPTY_SET"), (0, u "Ljava/util/ImmutableCollections$SetN;"), (0, .class_ 121), (0, u "java/util/ImmutableCollections$MapN"), (3, u "EMPTY_MAP"), (0, u "Ljava/util/ImmutableCollections$MapN;"), (4, u "EXPAND_FACTOR"), (0, u "I"), (9, u "listCopy"), (0, u "(Ljava/util/Collection;)Ljava/util/List;"), (7, u "listFromArray"), (17, .class_ 170), (0, u "java/util/ImmutableCollections$MapN$MapNIterator"), (0, .class_ 172), (0, u "java/util/ImmutableCollections$MapN$1"), (0, .class_ 174), (0, u "java/util/ImmutableCollections$Map1"), (0, .class_ 176), (0, u "java/util/ImmutableCollections$AbstractImmutableMap"), (0, .class_ 178), (0, u "java/util/ImmutableCollections$SetN$SetNIterator"), (0, .class_ 180), (0, u "java/util/ImmutableCollections$Set12"), (0, .class_ 182), (0, u "java/util/ImmutableCollections$Set12$1"), (0, .class_ 184), (0, u "java/util/ImmutableCollections$AbstractImmutableSet"), (0, .class_ 186), (0, u "java/util/ImmutableCollections$SubList"), (0, .class_ 188), (0, u "java/util/ImmutableCollections$ListItr"), (0, .class_ 190), (0, u "java/util/ImmutableCollections$AbstractImmutableList"), (0, .class_ 192), (0, u "java/util/ImmutableCollections$AbstractImmutableCollection"), (0, .class_ 194), (0, u "java/util/ImmutableCollections$Access"), (0, .class_ 196), (0, u "java/util/ImmutableCollections$Access$1")] 16

def k26m0 : Method := { name := "<init>", desc := "()V", sig := { parameters := [], returnType := none }, accessFlags := 2, code := none }
def k26c1 : Code := { maxStack := 1, maxLocals := 2, code := jdk_56_method_3_code, exceptionTable := #[], attributes := #[] }
def k26m1 : Method := { name := "listCopy", desc := "(Ljava/util/Collection;)Ljava/util/List;", sig := { parameters := [(.object "java/util/Collection")], returnType := some (.object "java/util/List") }, accessFlags := 8, code := some k26c1 }
def k26c2 : Code := { maxStack := 4, maxLocals := 3, code := jdk_56_method_4_code, exceptionTable := #[], attributes := #[] }
def k26m2 : Method := { name := "listFromArray", desc := "([Ljava/lang/Object;)Ljava/util/List;", sig := { parameters := [(.array (.object "java/lang/Object"))], returnType := some (.object "java/util/List") }, accessFlags := 136, code := some k26c2 }
/-- java/util/ImmutableCollections -/
def k26 : Class := { plain "java/util/ImmutableCollections" (some 0) with
  accessFlags := 32
  interfaces := #[]
  cf := some (fileOf pool26 47 #[.nestMembers #[120, 169, 171, 173, 175, 111, 177, 179, 181, 183, 12, 10, 185, 187, 189, 191, 193, 195]] #[{ accessFlags := 2, nameIndex := 5, descriptorIndex := 6, attributes := #[] }, { accessFlags := 8, nameIndex := 142, descriptorIndex := 143, attributes := #[] }, { accessFlags := 136, nameIndex := 151, descriptorIndex := 36, attributes := #[] }] 32 2 #[] #[{ accessFlags := 26, nameIndex := 95, descriptorIndex := 96, attributes := #[] }, { accessFlags := 26, nameIndex := 99, descriptorIndex := 17, attributes := #[] }, { accessFlags := 10, nameIndex := 106, descriptorIndex := 56, attributes := #[] }, { accessFlags := 26, nameIndex := 109, descriptorIndex := 110, attributes := #[] }, { accessFlags := 24, nameIndex := 62, descriptorIndex := 63, attributes := #[] }, { accessFlags := 24, nameIndex := 72, descriptorIndex := 63, attributes := #[] }, { accessFlags := 24, nameIndex := 118, descriptorIndex := 119, attributes := #[] }, { accessFlags := 24, nameIndex := 125, descriptorIndex := 126, attributes := #[] }, { accessFlags := 24, nameIndex := 131, descriptorIndex := 132, attributes := #[] }, { accessFlags := 4120, nameIndex := 50, descriptorIndex := 17, attributes := #[] }])
  fields := #[{ name := "SALT32L", type := .long, accessFlags := 26, slot := 0, constantValue := 0 }, { name := "REVERSE", type := .boolean, accessFlags := 26, slot := 1, constantValue := 0 }, { name := "archivedObjects", type := (.array (.object "java/lang/Object")), accessFlags := 10, slot := 2, constantValue := 0 }, { name := "EMPTY", type := (.object "java/lang/Object"), accessFlags := 26, slot := 3, constantValue := 0 }, { name := "EMPTY_LIST", type := (.object "java/util/ImmutableCollections$ListN"), accessFlags := 24, slot := 4, constantValue := 0 }, { name := "EMPTY_LIST_NULLS", type := (.object "java/util/ImmutableCollections$ListN"), accessFlags := 24, slot := 5, constantValue := 0 }, { name := "EMPTY_SET", type := (.object "java/util/ImmutableCollections$SetN"), accessFlags := 24, slot := 6, constantValue := 0 }, { name := "EMPTY_MAP", type := (.object "java/util/ImmutableCollections$MapN"), accessFlags := 24, slot := 7, constantValue := 0 }, { name := "EXPAND_FACTOR", type := .int, accessFlags := 24, slot := 8, constantValue := 0 }, { name := "$assertionsDisabled", type := .boolean, accessFlags := 4120, slot := 9, constantValue := 0 }]
  methods := #[k26m0, k26m1, k26m2]
  instanceTypes := #[]
  staticTypes := #[.long, .boolean, (.array (.object "java/lang/Object")), (.object "java/lang/Object"), (.object "java/util/ImmutableCollections$ListN"), (.object "java/util/ImmutableCollections$ListN"), (.object "java/util/ImmutableCollections$SetN"), (.object "java/util/ImmutableCollections$MapN"), .int, .boolean]
  resolved := Array.replicate 213 none
  statics := some 1 }

def pool27 : Array CpInfo := pool [(1, .methodref 2 3), (0, .class_ 4), (0, .nameAndType 5 6), (0, u "java/util/AbstractCollection"), (0, u "<init>"), (0, u "()V"), (1, .class_ 10), (1, u "java/util/ImmutableCollections"), (2, .class_ 14), (0, u "java/util/ImmutableCollections$AbstractImmutableCollection")] 41

def k27c0 : Code := { maxStack := 1, maxLocals := 1, code := jdk_47_method_1_code, exceptionTable := #[], attributes := #[] }
def k27m0 : Method := { name := "<init>", desc := "()V", sig := { parameters := [], returnType := none }, accessFlags := 0, code := some k27c0 }
/-- java/util/ImmutableCollections$AbstractImmutableCollection -/
def k27 : Class := { plain "java/util/ImmutableCollections$AbstractImmutableCollection" (some 4) with
  accessFlags := 1056
  interfaces := #[]
  cf := some (fileOf pool27 13 #[.nestHost 8] #[{ accessFlags := 0, nameIndex := 5, descriptorIndex := 6, attributes := #[] }] 1056 2 #[] #[])
  fields := #[]
  methods := #[k27m0]
  instanceTypes := #[]
  staticTypes := #[]
  resolved := Array.replicate 56 none
  statics := none }

def pool28 : Array CpInfo := pool [(1, .methodref 2 3), (0, .class_ 4), (0, .nameAndType 5 6), (0, u "java/util/ImmutableCollections$AbstractImmutableCollection"), (0, u "<init>"), (0, u "()V"), (1, .class_ 10), (1, u "java/util/ImmutableCollections"), (2, .methodref 14 15), (0, .class_ 16), (0, .nameAndType 17 18), (0, u "java/util/ImmutableCollections$AbstractImmutableList"), (0, u "size"), (0, u "()I"), (42, .class_ 62), (0, u "java/util/ImmutableCollections$ListItr"), (0, .methodref 61 64), (0, .nameAndType 5 65), (0, u "(Ljava/util/List;I)V"), (11, .class_ 78), (0, u "java/util/List"), (2, u "iterator"), (0, u "()Ljava/util/Iterator;"), (41, .class_ 125), (0, u "java/util/RandomAccess")] 70

def k28c0 : Code := { maxStack := 1, maxLocals := 1, code := jdk_46_method_1_code, exceptionTable := #[], attributes := #[] }
def k28m0 : Method := { name := "<init>", desc := "()V", sig := { parameters := [], returnType := none }, accessFlags := 0, code := some k28c0 }
def k28c1 : Code := { maxStack := 4, maxLocals := 1, code := jdk_46_method_10_code, exceptionTable := #[], attributes := #[] }
def k28m1 : Method := { name := "iterator", desc := "()Ljava/util/Iterator;", sig := { parameters := [], returnType := some (.object "java/util/Iterator") }, accessFlags := 1, code := some k28c1 }
/-- java/util/ImmutableCollections$AbstractImmutableList -/
def k28 : Class := { plain "java/util/ImmutableCollections$AbstractImmutableList" (some 27) with
  accessFlags := 1056
  interfaces := #[6, 8]
  cf := some (fileOf pool28 14 #[.nestHost 8] #[{ accessFlags := 0, nameIndex := 5, descriptorIndex := 6, attributes := #[] }, { accessFlags := 1, nameIndex := 81, descriptorIndex := 82, attributes := #[] }] 1056 2 #[77, 124] #[])
  fields := #[]
  methods := #[k28m0, k28m1]
  instanceTypes := #[]
  staticTypes := #[]
  resolved := Array.replicate 196 none
  statics := none }

def pool29 : Array CpInfo := pool [(1, .methodref 2 3), (0, .class_ 4), (0, .nameAndType 5 6), (0, u "java/util/ImmutableCollections$AbstractImmutableList"), (0, u "<init>"), (0, u "()V"), (0, .methodref 8 9), (0, .class_ 10), (0, .nameAndType 11 12), (0, u "java/util/Objects"), (0, u "requireNonNull"), (0, u "(Ljava/lang/Object;)Ljava/lang/Object;"), (0, .fieldref 14 15), (0, .class_ 16), (0, .nameAndType 17 18), (0, u "java/util/ImmutableCollections$List12"), (0, u "e0"), (0, u "Ljava/lang/Object;"), (0, .fieldref 20 21), (0, .class_ 22), (0, .nameAndType 23 18), (0, u "java/util/ImmutableCollections"), (0, u "EMPTY"), (0, .fieldref 14 25), (0, .nameAndType 26 18), (0, u "e1"), (24, u "size"), (0, u "()I"), (17, .class_ 71), (0, u "java/io/Serializable"), (13, u "(Ljava/lang/Object;Ljava/lang/Object;)V"), (4, u "get"), (0, u "(I)Ljava/lang/Object;")] 33

def k29c0 : Code := { maxStack := 2, maxLocals := 3, code := jdk_44_method_2_code, exceptionTable := #[], attributes := #[] }
def k29m0 : Method := { name := "<init>", desc := "(Ljava/lang/Object;Ljava/lang/Object;)V", sig := { parameters := [(.object "java/lang/Object"), (.object "java/lang/Object")], returnType := none }, accessFlags := 0, code := some k29c0 }
def k29c1 : Code := { maxStack := 2, maxLocals := 1, code := jdk_44_method_3_code, exceptionTable := #[], attributes := #[] }
def k29m1 : Method := { name := "size", desc := "()I", sig := { parameters := [], returnType := some .int }, accessFlags := 1, code := some k29c1 }
def k29c2 : Code := { maxStack := 2, maxLocals := 2, code := jdk_44_method_5_code, exceptionTable := #[], attributes := #[] }
def k29m2 : Method := { name := "get", desc := "(I)Ljava/lang/Object;", sig := { parameters := [.int], returnType := some (.object "java/lang/Object") }, accessFlags := 1, code := some k29c2 }
/-- java/util/ImmutableCollections$List12 -/
def k29 : Class := { plain "java/util/ImmutableCollections$List12" (some 28) with
  accessFlags := 48
  interfaces := #[10]
  cf := some (fileOf pool29 14 #[.nestHost 20] #[{ accessFlags := 0, nameIndex := 5, descriptorIndex := 85, attributes := #[] }, { accessFlags := 1, nameIndex := 51, descriptorIndex := 52, attributes := #[] }, { accessFlags := 1, nameIndex := 90, descriptorIndex := 91, attributes := #[] }] 48 2 #[70] #[{ accessFlags := 18, nameIndex := 17, descriptorIndex := 18, attributes := #[] }, { accessFlags := 18, nameIndex := 26, descriptorIndex := 18, attributes := #[] }])
  fields := #[{ name := "e0", type := (.object "java/lang/Object"), accessFlags := 18, slot := 0, constantValue := 0 }, { name := "e1", type := (.object "java/lang/Object"), accessFlags := 18, slot := 1, constantValue := 0 }]
  methods := #[k29m0, k29m1, k29m2]
  instanceTypes := #[(.object "java/lang/Object"), (.object "java/lang/Object")]
  staticTypes := #[]
  resolved := Array.replicate 125 none
  statics := none }

def pool30 : Array CpInfo := pool [(1, .methodref 2 3), (0, .class_ 4), (0, .nameAndType 5 6), (0, u "java/util/ImmutableCollections$AbstractImmutableList"), (0, u "<init>"), (0, u "()V"), (0, .fieldref 8 9), (0, .class_ 10), (0, .nameAndType 11 12), (0, u "java/util/ImmutableCollections$ListN"), (0, u "elements"), (0, u "[Ljava/lang/Object;"), (0, .fieldref 8 14), (0, .nameAndType 15 16), (0, u "allowNulls"), (0, u "Z"), (42, .class_ 60), (0, u "java/io/Serializable"), (4, u "([Ljava/lang/Object;Z)V"), (11, u "size"), (0, u "()I"), (0, u "get"), (0, u "(I)Ljava/lang/Object;"), (33, .class_ 115), (0, u "java/util/ImmutableCollections")] 3

def k30c0 : Code := { maxStack := 2, maxLocals := 3, code := jdk_45_method_1_code, exceptionTable := #[], attributes := #[] }
def k30m0 : Method := { name := "<init>", desc := "([Ljava/lang/Object;Z)V", sig := { parameters := [(.array (.object "java/lang/Object")), .boolean], returnType := none }, accessFlags := 2, code := some k30c0 }
def k30c1 : Code := { maxStack := 1, maxLocals := 1, code := jdk_45_method_3_code, exceptionTable := #[], attributes := #[] }
def k30m1 : Method := { name := "size", desc := "()I", sig := { parameters := [], returnType := some .int }, accessFlags := 1, code := some k30c1 }
def k30c2 : Code := { maxStack := 2, maxLocals := 2, code := jdk_45_method_4_code, exceptionTable := #[], attributes := #[] }
def k30m2 : Method := { name := "get", desc := "(I)Ljava/lang/Object;", sig := { parameters := [.int], returnType := some (.object "java/lang/Object") }, accessFlags := 1, code := some k30c2 }
/-- java/util/ImmutableCollections$ListN -/
def k30 : Class := { plain "java/util/ImmutableCollections$ListN" (some 28) with
  accessFlags := 48
  interfaces := #[10]
  cf := some (fileOf pool30 8 #[.nestHost 114] #[{ accessFlags := 2, nameIndex := 5, descriptorIndex := 65, attributes := #[] }, { accessFlags := 1, nameIndex := 77, descriptorIndex := 78, attributes := #[] }, { accessFlags := 1, nameIndex := 79, descriptorIndex := 80, attributes := #[] }] 48 2 #[59] #[{ accessFlags := 18, nameIndex := 11, descriptorIndex := 12, attributes := #[] }, { accessFlags := 18, nameIndex := 15, descriptorIndex := 16, attributes := #[] }])
  fields := #[{ name := "elements", type := (.array (.object "java/lang/Object")), accessFlags := 18, slot := 0, constantValue := 0 }, { name := "allowNulls", type := .boolean, accessFlags := 18, slot := 1, constantValue := 0 }]
  methods := #[k30m0, k30m1, k30m2]
  instanceTypes := #[(.array (.object "java/lang/Object")), .boolean]
  staticTypes := #[]
  resolved := Array.replicate 119 none
  statics := none }

def pool31 : Array CpInfo := pool [(2, .class_ 4), (1, u "java/lang/Object"), (0, u "<init>"), (0, u "()V"), (7, .class_ 16), (1, u "java/util/Arrays"), (57, .class_ 76), (1, u "java/util/Arrays$NaturalOrder"), (9, .methodref 2 87), (0, .nameAndType 88 89), (0, u "getClass"), (0, u "()Ljava/lang/Class;"), (20, .class_ 111), (0, u "[Ljava/lang/Object;"), (1, .class_ 115), (1, u "java/util/Arrays$LegacyMergeSort"), (1, u "Z"), (32, .methodref 151 152), (0, .class_ 153), (0, .nameAndType 154 155), (0, u "java/lang/System"), (0, u "arraycopy"), (0, u "(Ljava/lang/Object;ILjava/lang/Object;II)V"), (144, .methodref 14 301), (0, .nameAndType 302 303), (0, u "copyOf"), (0, u "([Ljava/lang/Object;ILjava/lang/Class;)[Ljava/lang/Object;"), (0, .methodref 305 306), (0, .class_ 307), (0, .nameAndType 308 309), (0, u "java/lang/Math"), (0, u "min"), (0, u "(II)I"), (65, .class_ 376), (0, u "java/util/Arrays$ArrayList"), (68, u "$assertionsDisabled"), (269, u "MIN_ARRAY_SORT_GRAN"), (0, u "I"), (2, u "INSERTIONSORT_THRESHOLD"), (140, u "([Ljava/lang/Object;I)[Ljava/lang/Object;"), (114, .class_ 976), (0, u "java/util/Arrays$ArrayItr")] 52

def k31m0 : Method := { name := "<init>", desc := "()V", sig := { parameters := [], returnType := none }, accessFlags := 2, code := none }
def k31c1 : Code := { maxStack := 3, maxLocals := 2, code := jdk_65_method_119_code, exceptionTable := #[], attributes := #[] }
def k31m1 : Method := { name := "copyOf", desc := "([Ljava/lang/Object;I)[Ljava/lang/Object;", sig := { parameters := [(.array (.object "java/lang/Object")), .int], returnType := some (.array (.object "java/lang/Object")) }, accessFlags := 9, code := some k31c1 }
def k31c2 : Code := { maxStack := 6, maxLocals := 4, code := jdk_65_method_120_code, exceptionTable := #[], attributes := #[] }
def k31m2 : Method := { name := "copyOf", desc := "([Ljava/lang/Object;ILjava/lang/Class;)[Ljava/lang/Object;", sig := { parameters := [(.array (.object "java/lang/Object")), .int, (.object "java/lang/Class")], returnType := some (.array (.object "java/lang/Object")) }, accessFlags := 9, code := some k31c2 }
/-- java/util/Arrays -/
def k31 : Class := { plain "java/util/Arrays" (some 0) with
  accessFlags := 49
  interfaces := #[]
  cf := some (fileOf pool31 14 #[.nestMembers #[975, 375, 113, 74]] #[{ accessFlags := 2, nameIndex := 5, descriptorIndex := 6, attributes := #[] }, { accessFlags := 9, nameIndex := 302, descriptorIndex := 860, attributes := #[] }, { accessFlags := 9, nameIndex := 302, descriptorIndex := 303, attributes := #[] }] 49 2 #[] #[{ accessFlags := 26, nameIndex := 715, descriptorIndex := 716, attributes := #[] }, { accessFlags := 26, nameIndex := 719, descriptorIndex := 716, attributes := #[] }, { accessFlags := 4120, nameIndex := 445, descriptorIndex := 117, attributes := #[] }])
  fields := #[{ name := "MIN_ARRAY_SORT_GRAN", type := .int, accessFlags := 26, slot := 0, constantValue := 0 }, { name := "INSERTIONSORT_THRESHOLD", type := .int, accessFlags := 26, slot := 1, constantValue := 0 }, { name := "$assertionsDisabled", type := .boolean, accessFlags := 4120, slot := 2, constantValue := 0 }]
  methods := #[k31m0, k31m1, k31m2]
  instanceTypes := #[]
  staticTypes := #[.int, .int, .boolean]
  resolved := Array.replicate 1029 none
  statics := none }

def pool32 : Array CpInfo := pool [(2, .class_ 4), (1, u "java/lang/Object"), (0, u "<init>"), (0, u "()V"), (1, .class_ 10), (1, u "java/lang/System"), (0, u "allowSecurityManager"), (0, u "I"), (16, u "cons"), (0, u "Ljava/io/Console;"), (77, .class_ 110), (1, u "java/lang/System$CallersHolder"), (43, u "initialErrStream"), (0, u "Ljava/io/PrintStream;"), (19, u "security"), (0, u "Ljava/lang/SecurityManager;"), (31, .class_ 209), (0, u "java/lang/System$1"), (7, u "props"), (0, u "Ljava/util/Properties;"), (2, u "lineSeparator"), (0, u "Ljava/lang/String;"), (96, .class_ 321), (1, u "java/lang/System$LoggerFinder"), (5, .class_ 328), (0, u "java/lang/System$Logger"), (67, u "err"), (2, u "out"), (91, u "notSupportedJnuEncoding"), (15, u "in"), (17, u "initialIn"), (0, u "Ljava/io/InputStream;"), (35, u "bootLayer"), (0, u "Ljava/lang/ModuleLayer;"), (99, .class_ 664), (0, u "java/lang/System$2"), (9, u "NEVER"), (2, u "MAYBE"), (49, u "arraycopy"), (0, u "(Ljava/lang/Object;ILjava/lang/Object;II)V"), (72, .class_ 802), (0, u "java/lang/System$Logger$Level")] 31

def k32m0 : Method := { name := "<init>", desc := "()V", sig := { parameters := [], returnType := none }, accessFlags := 2, code := none }
def k32m1 : Method := { name := "arraycopy", desc := "(Ljava/lang/Object;ILjava/lang/Object;II)V", sig := { parameters := [(.object "java/lang/Object"), .int, (.object "java/lang/Object"), .int, .int], returnType := none }, accessFlags := 265, code := none }
/-- java/lang/System -/
def k32 : Class := { plain "java/lang/System" (some 0) with
  accessFlags := 49
  interfaces := #[]
  cf := some (fileOf pool32 8 #[.nestMembers #[319, 327, 801, 108, 663, 208]] #[{ accessFlags := 2, nameIndex := 5, descriptorIndex := 6, attributes := #[] }, { accessFlags := 265, nameIndex := 727, descriptorIndex := 728, attributes := #[] }] 49 2 #[] #[{ accessFlags := 25, nameIndex := 507, descriptorIndex := 526, attributes := #[] }, { accessFlags := 25, nameIndex := 399, descriptorIndex := 155, attributes := #[] }, { accessFlags := 25, nameIndex := 396, descriptorIndex := 155, attributes := #[] }, { accessFlags := 10, nameIndex := 525, descriptorIndex := 526, attributes := #[] }, { accessFlags := 26, nameIndex := 674, descriptorIndex := 12, attributes := #[] }, { accessFlags := 26, nameIndex := 677, descriptorIndex := 12, attributes := #[] }, { accessFlags := 10, nameIndex := 11, descriptorIndex := 12, attributes := #[] }, { accessFlags := 74, nameIndex := 175, descriptorIndex := 176, attributes := #[] }, { accessFlags := 10, nameIndex := 491, descriptorIndex := 222, attributes := #[] }, { accessFlags := 74, nameIndex := 29, descriptorIndex := 30, attributes := #[] }, { accessFlags := 74, nameIndex := 154, descriptorIndex := 155, attributes := #[] }, { accessFlags := 10, nameIndex := 217, descriptorIndex := 218, attributes := #[] }, { accessFlags := 10, nameIndex := 221, descriptorIndex := 222, attributes := #[] }, { accessFlags := 8, nameIndex := 562, descriptorIndex := 563, attributes := #[] }])
  fields := #[{ name := "in", type := (.object "java/io/InputStream"), accessFlags := 25, slot := 0, constantValue := 0 }, { name := "out", type := (.object "java/io/PrintStream"), accessFlags := 25, slot := 1, constantValue := 0 }, { name := "err", type := (.object "java/io/PrintStream"), accessFlags := 25, slot := 2, constantValue := 0 }, { name := "initialIn", type := (.object "java/io/InputStream"), accessFlags := 10, slot := 3, constantValue := 0 }, { name := "NEVER", type := .int, accessFlags := 26, slot := 4, constantValue := 0 }, { name := "MAYBE", type := .int, accessFlags := 26, slot := 5, constantValue := 0 }, { name := "allowSecurityManager", type := .int, accessFlags := 10, slot := 6, constantValue := 0 }, { name := "security", type := (.object "java/lang/SecurityManager"), accessFlags := 74, slot := 7, constantValue := 0 }, { name := "notSupportedJnuEncoding", type := (.object "java/lang/String"), accessFlags := 10, slot := 8, constantValue := 0 }, { name := "cons", type := (.object "java/io/Console"), accessFlags := 74, slot := 9, constantValue := 0 }, { name := "initialErrStream", type := (.object "java/io/PrintStream"), accessFlags := 74, slot := 10, constantValue := 0 }, { name := "props", type := (.object "java/util/Properties"), accessFlags := 10, slot := 11, constantValue := 0 }, { name := "lineSeparator", type := (.object "java/lang/String"), accessFlags := 10, slot := 12, constantValue := 0 }, { name := "bootLayer", type := (.object "java/lang/ModuleLayer"), accessFlags := 8, slot := 13, constantValue := 0 }]
  methods := #[k32m0, k32m1]
  instanceTypes := #[]
  staticTypes := #[(.object "java/io/InputStream"), (.object "java/io/PrintStream"), (.object "java/io/PrintStream"), (.object "java/io/InputStream"), .int, .int, .int, (.object "java/lang/SecurityManager"), (.object "java/lang/String"), (.object "java/io/Console"), (.object "java/io/PrintStream"), (.object "java/util/Properties"), (.object "java/lang/String"), (.object "java/lang/ModuleLayer")]
  resolved := Array.replicate 834 none
  statics := none }

def pool33 : Array CpInfo := pool [(1, .methodref 2 3), (0, .class_ 4), (0, .nameAndType 5 6), (0, u "java/lang/Object"), (0, u "<init>"), (0, u "()V"), (0, .interfaceMethodref 8 9), (0, .class_ 10), (0, .nameAndType 11 12), (0, u "java/util/List"), (0, u "size"), (0, u "()I"), (0, .fieldref 14 15), (0, .class_ 16), (0, .nameAndType 17 18), (0, u "com/example/matchwright/matchwright/core/InstanceVectors"), (0, u "count"), (0, u "I"), (0, .interfaceMethodref 8 20), (0, .nameAndType 21 22), (0, u "isEmpty"), (0, u "()Z"), (0, .interfaceMethodref 8 24), (0, .nameAndType 25 26), (0, u "get"), (0, u "(I)Ljava/lang/Object;"), (0, .class_ 28), (0, u "com/example/matchwright/matchwright/core/MatchObject"), (0, .methodref 27 30), (0, .nameAndType 31 32), (0, u "vectors"), (0, u "()Ljava/util/List;"), (0, .fieldref 14 34), (0, .nameAndType 35 18), (0, u "instances"), (0, .fieldref 14 37), (0, .nameAndType 38 18), (0, u "dimension"), (0, .fieldref 14 40), (0, .nameAndType 31 18), (0, .methodref 42 43), (0, .class_ 44), (0, .nameAndType 45 46), (0, u "java/lang/Math"), (0, u "toIntExact"), (0, u "(J)I"), (0, .fieldref 14 48), (0, .nameAndType 49 50), (0, u "values"), (0, u "[D"), (0, .interfaceMethodref 8 52), (0, .nameAndType 53 54), (0, u "iterator"), (0, u "()Ljava/util/Iterator;"), (0, .interfaceMethodref 56 57), (0, .class_ 58), (0, .nameAndType 59 22), (0, u "java/util/Iterator"), (0, u "hasNext"), (0, .interfaceMethodref 56 61), (0, .nameAndType 62 63), (0, u "next"), (0, u "()Ljava/lang/Object;"), (0, .class_ 65), (0, u "java/lang/Double"), (0, .methodref 64 67), (0, .nameAndType 68 69), (0, u "doubleValue"), (0, u "()D"), (0, .fieldref 14 71), (0, .nameAndType 72 50), (0, u "sums"), (0, .methodref 14 74), (0, .nameAndType 75 76), (0, u "sumOf"), (0, u "(I)D"), (38, u "score"), (0, u "(II)D"), (11, u "checks"), (0, u "J"), (3, u "(Ljava/util/List;)V")] 17

def k33c0 : Code := { maxStack := 5, maxLocals := 10, code := prog_26_method_1_code, exceptionTable := #[], attributes := #[] }
def k33m0 : Method := { name := "<init>", desc := "(Ljava/util/List;)V", sig := { parameters := [(.object "java/util/List")], returnType := none }, accessFlags := 0, code := some k33c0 }
def k33c1 : Code := { maxStack := 3, maxLocals := 3, code := prog_26_method_6_code, exceptionTable := #[], attributes := #[] }
def k33m1 : Method := { name := "score", desc := "(II)D", sig := { parameters := [.int, .int], returnType := some .double }, accessFlags := 0, code := some k33c1 }
def k33c2 : Code := { maxStack := 5, maxLocals := 5, code := prog_26_method_14_code, exceptionTable := #[], attributes := #[] }
def k33m2 : Method := { name := "sumOf", desc := "(I)D", sig := { parameters := [.int], returnType := some .double }, accessFlags := 2, code := some k33c2 }
/-- com/example/matchwright/matchwright/core/InstanceVectors -/
def k33 : Class := { plain "com/example/matchwright/matchwright/core/InstanceVectors" (some 0) with
  accessFlags := 48
  interfaces := #[]
  cf := some (fileOf pool33 14 #[] #[{ accessFlags := 0, nameIndex := 5, descriptorIndex := 133, attributes := #[] }, { accessFlags := 0, nameIndex := 115, descriptorIndex := 116, attributes := #[] }, { accessFlags := 2, nameIndex := 75, descriptorIndex := 76, attributes := #[] }] 48 2 #[] #[{ accessFlags := 18, nameIndex := 17, descriptorIndex := 18, attributes := #[] }, { accessFlags := 18, nameIndex := 35, descriptorIndex := 18, attributes := #[] }, { accessFlags := 18, nameIndex := 38, descriptorIndex := 18, attributes := #[] }, { accessFlags := 2, nameIndex := 31, descriptorIndex := 18, attributes := #[] }, { accessFlags := 2, nameIndex := 49, descriptorIndex := 50, attributes := #[] }, { accessFlags := 2, nameIndex := 72, descriptorIndex := 50, attributes := #[] }, { accessFlags := 2, nameIndex := 128, descriptorIndex := 129, attributes := #[] }])
  fields := #[{ name := "count", type := .int, accessFlags := 18, slot := 0, constantValue := 0 }, { name := "instances", type := .int, accessFlags := 18, slot := 1, constantValue := 0 }, { name := "dimension", type := .int, accessFlags := 18, slot := 2, constantValue := 0 }, { name := "vectors", type := .int, accessFlags := 2, slot := 3, constantValue := 0 }, { name := "values", type := (.array .double), accessFlags := 2, slot := 4, constantValue := 0 }, { name := "sums", type := (.array .double), accessFlags := 2, slot := 5, constantValue := 0 }, { name := "checks", type := .long, accessFlags := 2, slot := 6, constantValue := 0 }]
  methods := #[k33m0, k33m1, k33m2]
  instanceTypes := #[.int, .int, .int, .int, (.array .double), (.array .double), .long]
  staticTypes := #[]
  resolved := Array.replicate 151 none
  statics := none }

def pool34 : Array CpInfo := pool [(1, .class_ 2), (0, u "java/util/ListIterator"), (0, .class_ 4), (0, u "java/lang/Object"), (0, .class_ 6), (0, u "java/util/Iterator")] 20

/-- java/util/ListIterator -/
def k34 : Class := { plain "java/util/ListIterator" (some 0) with
  accessFlags := 1537
  interfaces := #[24]
  cf := some (fileOf pool34 1 #[] #[] 1537 3 #[5] #[])
  fields := #[]
  methods := #[]
  instanceTypes := #[]
  staticTypes := #[]
  resolved := Array.replicate 27 none
  statics := none }

def pool35 : Array CpInfo := pool [(1, .methodref 2 3), (0, .class_ 4), (0, .nameAndType 5 6), (0, u "java/lang/Object"), (0, u "<init>"), (0, u "()V"), (0, .fieldref 8 9), (0, .class_ 10), (0, .nameAndType 11 12), (0, u "java/util/ImmutableCollections$ListItr"), (0, u "list"), (0, u "Ljava/util/List;"), (0, .fieldref 8 14), (0, .nameAndType 15 16), (0, u "size"), (0, u "I"), (0, .fieldref 8 18), (0, .nameAndType 19 16), (0, u "cursor"), (0, .fieldref 8 21), (0, .nameAndType 22 23), (0, u "isListIterator"), (0, u "Z"), (0, .interfaceMethodref 25 26), (0, .class_ 27), (0, .nameAndType 28 29), (0, u "java/util/List"), (0, u "get"), (0, u "(I)Ljava/lang/Object;"), (6, .class_ 38), (1, u "java/util/ImmutableCollections"), (2, .class_ 42), (0, u "java/util/ListIterator"), (4, u "(Ljava/util/List;I)V"), (11, u "hasNext"), (0, u "()Z"), (1, u "next"), (0, u "()Ljava/lang/Object;")] 22

def k35c0 : Code := { maxStack := 2, maxLocals := 3, code := jdk_53_method_1_code, exceptionTable := #[], attributes := #[] }
def k35m0 : Method := { name := "<init>", desc := "(Ljava/util/List;I)V", sig := { parameters := [(.object "java/util/List"), .int], returnType := none }, accessFlags := 0, code := some k35c0 }
def k35c1 : Code := { maxStack := 2, maxLocals := 1, code := jdk_53_method_3_code, exceptionTable := #[], attributes := #[] }
def k35m1 : Method := { name := "hasNext", desc := "()Z", sig := { parameters := [], returnType := some .boolean }, accessFlags := 1, code := some k35c1 }
def k35c2 : Code := { maxStack := 3, maxLocals := 3, code := jdk_53_method_4_code, exceptionTable := #[{ startPc := 0, endPc := 24, handlerPc := 25, catchType := 30 }], attributes := #[] }
def k35m2 : Method := { name := "next", desc := "()Ljava/lang/Object;", sig := { parameters := [], returnType := some (.object "java/lang/Object") }, accessFlags := 1, code := some k35c2 }
/-- java/util/ImmutableCollections$ListItr -/
def k35 : Class := { plain "java/util/ImmutableCollections$ListItr" (some 0) with
  accessFlags := 48
  interfaces := #[34]
  cf := some (fileOf pool35 8 #[.nestHost 36] #[{ accessFlags := 0, nameIndex := 5, descriptorIndex := 47, attributes := #[] }, { accessFlags := 1, nameIndex := 59, descriptorIndex := 60, attributes := #[] }, { accessFlags := 1, nameIndex := 62, descriptorIndex := 63, attributes := #[] }] 48 2 #[41] #[{ accessFlags := 18, nameIndex := 11, descriptorIndex := 12, attributes := #[] }, { accessFlags := 18, nameIndex := 15, descriptorIndex := 16, attributes := #[] }, { accessFlags := 18, nameIndex := 22, descriptorIndex := 23, attributes := #[] }, { accessFlags := 2, nameIndex := 19, descriptorIndex := 16, attributes := #[] }])
  fields := #[{ name := "list", type := (.object "java/util/List"), accessFlags := 18, slot := 0, constantValue := 0 }, { name := "size", type := .int, accessFlags := 18, slot := 1, constantValue := 0 }, { name := "isListIterator", type := .boolean, accessFlags := 18, slot := 2, constantValue := 0 }, { name := "cursor", type := .int, accessFlags := 2, slot := 3, constantValue := 0 }]
  methods := #[k35m0, k35m1, k35m2]
  instanceTypes := #[(.object "java/util/List"), .int, .boolean, .int]
  staticTypes := #[]
  resolved := Array.replicate 86 none
  statics := none }

def pool36 : Array CpInfo := pool [(1, u "java/lang/Class"), (0, .class_ 1), (0, u "java/lang/Object"), (0, .class_ 3)] 3

/-- java/lang/Class -/
def k36 : Class := { plain "java/lang/Class" (some 0) with
  accessFlags := 49
  interfaces := #[]
  cf := some (fileOf pool36 2 #[] #[] 49 4 #[] #[])
  fields := #[]
  methods := #[]
  instanceTypes := #[]
  staticTypes := #[]
  resolved := Array.replicate 8 none
  statics := none }

/-- the primitive byte -/
def k37 : Class := { plain "byte" none with kind := .primitive 'B', accessFlags := 0x411 }
/-- [B -/
def k38 : Class := { plain "[B" (some 0) with kind := .array 37 .byte, interfaces := #[9, 10], accessFlags := 1041 }

/-- the primitive double -/
def k39 : Class := { plain "double" none with kind := .primitive 'D', accessFlags := 0x411 }
/-- [D -/
def k40 : Class := { plain "[D" (some 0) with kind := .array 39 .double, interfaces := #[9, 10], accessFlags := 1041 }

/-- the primitive int -/
def k41 : Class := { plain "int" none with kind := .primitive 'I', accessFlags := 0x411 }
/-- [I -/
def k42 : Class := { plain "[I" (some 0) with kind := .array 41 .int, interfaces := #[9, 10], accessFlags := 1041 }

/-- [Ljava/lang/Object; -/
def k43 : Class := { plain "[Ljava/lang/Object;" (some 0) with kind := .array 0 (.object "java/lang/Object"), interfaces := #[9, 10], accessFlags := 1041, mirror := some 2 }

def heap : Heap := #[{ cls := 11, slots := #[.long 0, .int 0, .ref 3, .ref 4], vm := .statics 11 },
  { cls := 26, slots := #[.long 0, .int 0, .null, .ref 5, .ref 6, .null, .null, .null, .int 0, .int 1], vm := .statics 26 },
  { cls := 36, slots := #[], vm := .mirror 43 },
  { cls := 43, slots := #[], vm := .none },
  { cls := 43, slots := #[], vm := .none },
  { cls := 0, slots := #[], vm := .none },
  { cls := 30, slots := #[.null, .int 0], vm := .none }]
def classes : Array Class := #[k0, k1, k2, k3, k4, k5, k6, k7, k8, k9, k10, k11, k12, k13, k14, k15, k16, k17, k18, k19, k20, k21, k22, k23, k24, k25, k26, k27, k28, k29, k30, k31, k32, k33, k34, k35, k36, k37, k38, k39, k40, k41, k42, k43]
def interned : List (Array UInt16 × Addr) := []
def slotsUsed : Nat := 16
def theMethod : MethodId := ⟨1, 3⟩
def args0 : Array Value := #[.int 5, .int 6, .int 7]
def aboutOver (below : List Frame) : State where
  vm := { classes := classes, interned := interned.toArray }
  heap := heap
  slotsUsed := slotsUsed
  threads := #[{ frames := .invoking theMethod args0 :: below }]
def below0 : List Frame := [.native { method := ⟨0, 0⟩, args := #[] }]
def about1 : State := aboutOver below0
def p0 : Program := .bare "" "" ""
def e0 : Env := launch0.env 0 0 0
theorem w_frames : about1.frames = Frame.invoking theMethod args0 :: below0 := rfl
set_option maxRecDepth 65536 in
theorem w_args : argsFit about1.vm theMethod args0 = true := by decide +kernel
set_option maxRecDepth 65536 in
theorem w_heap : heapFits about1 = true := by decide +kernel
set_option maxRecDepth 65536 in
theorem w_runnable : about1.curStatus? = some .runnable := by decide +kernel
set_option maxRecDepth 65536 in
theorem w_alone : about1.alone = true := by decide +kernel
set_option maxRecDepth 65536 in
theorem w_named : about1.methodNamed? x = some theMethod := by decide +kernel
set_option maxRecDepth 65536 in
theorem w_hears : about1.hears theMethod below0 = true := by decide +kernel
set_option maxRecDepth 65536 in
theorem w_ripe : about1.ripe theMethod args0 below0 = true := by decide +kernel
theorem w_running : about1.status = .running := rfl
set_option maxRecDepth 65536 in
theorem w_room : about1.hasRoom e0.platform room_1 = true :=
  launch0.hasRoom_least _ room_1 (by decide +kernel) (by decide +kernel) (by decide +kernel) (by decide +kernel) (by decide +kernel) (by decide +kernel)
theorem allAtoms_all (ts : List Jvm.Cond) (a : Array Jvm.Value) (st : Jvm.State) : (allAtoms ts).before a st = ts.all (fun c => c.before a st) := by
  induction ts with
  | nil => rfl
  | cons c t ih =>
    show (Jvm.Cond.and c (allAtoms t)).before a st = _
    rw [Jvm.Cond.before_and, ih, List.all_cons]
def words1 : List Jvm.Cond := Jvm.Cond.code x code maxLocals ret :: tables_1
/-- a 'code' word, met by the world's own term for the bytes: nothing is compared byte by byte -/
theorem code_word {y : MethodName} {bytes : ByteArray} {mx : Nat} {rt : Option FieldType} {a : Array Value} {s : State} {m : MethodId} {meth : Method} {c : Code} (h1 : s.methodNamed? y = some m) (h2 : s.vm.method? m = some meth) (h3 : meth.code = some c) (h4 : c.code = bytes)
    (h5 : (c.maxLocals == mx && c.exceptionTable.isEmpty && decide (c.maxStack ≤ mostOperands) && decide (meth.sig.returnType = rt) && !meth.locks && decide (parseMethodDescriptor y.desc = some meth.sig)) = true) : (Jvm.Cond.code y bytes mx rt).before a s = true := by
  simp only [Bool.and_eq_true, beq_iff_eq, Bool.not_eq_true', decide_eq_true_eq] at h5
  obtain ⟨⟨⟨⟨⟨g1, g2⟩, g3⟩, g4⟩, g5⟩, g6⟩ := h5
  simp [Cond.before, Cond.holds, Cond.value, h1, h2, h3, h4, g1, g2, g3, g4, g5, g6]
def isCode : Jvm.Cond → Bool
  | .code _ _ _ _ => true
  | _ => false
theorem all_split {L : List Jvm.Cond} {P : Jvm.Cond → Bool} (h1 : L.all (fun c => isCode c || P c) = true) (h2 : ∀ c ∈ L.filter isCode, P c = true) : L.all P = true := by
  refine List.all_eq_true.mpr fun c hc => ?_
  have h := List.all_eq_true.mp h1 c hc
  rcases Bool.eq_false_or_eq_true (isCode c) with hi | hi
  · exact h2 c (List.mem_filter.mpr ⟨hc, hi⟩)
  · simpa [hi] using h
set_option maxRecDepth 65536 in
theorem w_c0 : (Jvm.Cond.code x code maxLocals ret).before args0 about1 = true := code_word (m := ⟨1, 3⟩) (meth := k1m3) (c := k1c3) (by decide +kernel) rfl rfl rfl (by decide +kernel)
set_option maxRecDepth 65536 in
theorem w_c1 : (Jvm.Cond.code ({ cls := "java/util/ArrayList", name := "<init>", desc := "()V" } : Jvm.MethodName) jdk_38_method_2_code (1 : Nat) (Option.none : Option Jvm.ClassFile.FieldType)).before args0 about1 = true := code_word (m := ⟨11, 1⟩) (meth := k11m1) (c := k11c1) (by decide +kernel) rfl rfl rfl (by decide +kernel)
set_option maxRecDepth 65536 in
theorem w_c2 : (Jvm.Cond.code ({ cls := "java/util/AbstractList", name := "<init>", desc := "()V" } : Jvm.MethodName) jdk_39_method_1_code (1 : Nat) (Option.none : Option Jvm.ClassFile.FieldType)).before args0 about1 = true := code_word (m := ⟨7, 0⟩) (meth := k7m0) (c := k7c0) (by decide +kernel) rfl rfl rfl (by decide +kernel)
set_option maxRecDepth 65536 in
theorem w_c3 : (Jvm.Cond.code ({ cls := "java/util/AbstractCollection", name := "<init>", desc := "()V" } : Jvm.MethodName) jdk_22_method_1_code (1 : Nat) (Option.none : Option Jvm.ClassFile.FieldType)).before args0 about1 = true := code_word (m := ⟨4, 0⟩) (meth := k4m0) (c := k4c0) (by decide +kernel) rfl rfl rfl (by decide +kernel)
set_option maxRecDepth 65536 in
theorem w_c4 : (Jvm.Cond.code ({ cls := "java/lang/Object", name := "<init>", desc := "()V" } : Jvm.MethodName) object_method_1_code (1 : Nat) (Option.none : Option Jvm.ClassFile.FieldType)).before args0 about1 = true := code_word (m := ⟨0, 0⟩) (meth := k0m0) (c := k0c0) (by decide +kernel) rfl rfl rfl (by decide +kernel)
set_option maxRecDepth 65536 in
theorem w_c5 : (Jvm.Cond.code ({ cls := "com/example/matchwright/matchwright/core/InstanceVectorsScorePinLaw", name := "vec", desc := "(III)Ljava/util/List;" } : Jvm.MethodName) method_3_code (4 : Nat) (Option.some (Jvm.ClassFile.FieldType.object "java/util/List"))).before args0 about1 = true := code_word (m := ⟨1, 2⟩) (meth := k1m2) (c := k1c2) (by decide +kernel) rfl rfl rfl (by decide +kernel)
set_option maxRecDepth 65536 in
theorem w_c6 : (Jvm.Cond.code ({ cls := "com/example/matchwright/matchwright/core/InstanceVectorsScorePinLaw", name := "val", desc := "(III)D" } : Jvm.MethodName) method_2_code (3 : Nat) (Option.some Jvm.ClassFile.FieldType.double)).before args0 about1 = true := code_word (m := ⟨1, 1⟩) (meth := k1m1) (c := k1c1) (by decide +kernel) rfl rfl rfl (by decide +kernel)
set_option maxRecDepth 65536 in
theorem w_c7 : (Jvm.Cond.code ({ cls := "java/lang/Double", name := "valueOf", desc := "(D)Ljava/lang/Double;" } : Jvm.MethodName) jdk_117_method_4_code (2 : Nat) (Option.some (Jvm.ClassFile.FieldType.object "java/lang/Double"))).before args0 about1 = true := code_word (m := ⟨16, 0⟩) (meth := k16m0) (c := k16c0) (by decide +kernel) rfl rfl rfl (by decide +kernel)
set_option maxRecDepth 65536 in
theorem w_c8 : (Jvm.Cond.code ({ cls := "java/lang/Double", name := "<init>", desc := "(D)V" } : Jvm.MethodName) jdk_117_method_9_code (3 : Nat) (Option.none : Option Jvm.ClassFile.FieldType)).before args0 about1 = true := code_word (m := ⟨16, 2⟩) (meth := k16m2) (c := k16c2) (by decide +kernel) rfl rfl rfl (by decide +kernel)
set_option maxRecDepth 65536 in
theorem w_c9 : (Jvm.Cond.code ({ cls := "java/lang/Number", name := "<init>", desc := "()V" } : Jvm.MethodName) jdk_18_method_1_code (1 : Nat) (Option.none : Option Jvm.ClassFile.FieldType)).before args0 about1 = true := code_word (m := ⟨12, 0⟩) (meth := k12m0) (c := k12c0) (by decide +kernel) rfl rfl rfl (by decide +kernel)
set_option maxRecDepth 65536 in
theorem w_c10 : (Jvm.Cond.code ({ cls := "java/util/ArrayList", name := "add", desc := "(Ljava/lang/Object;)Z" } : Jvm.MethodName) jdk_38_method_25_code (2 : Nat) (Option.some Jvm.ClassFile.FieldType.boolean)).before args0 about1 = true := code_word (m := ⟨11, 10⟩) (meth := k11m10) (c := k11c10) (by decide +kernel) rfl rfl rfl (by decide +kernel)
set_option maxRecDepth 65536 in
theorem w_c11 : (Jvm.Cond.code ({ cls := "java/util/ArrayList", name := "add", desc := "(Ljava/lang/Object;[Ljava/lang/Object;I)V" } : Jvm.MethodName) jdk_38_method_24_code (4 : Nat) (Option.none : Option Jvm.ClassFile.FieldType)).before args0 about1 = true := code_word (m := ⟨11, 9⟩) (meth := k11m9) (c := k11c9) (by decide +kernel) rfl rfl rfl (by decide +kernel)
set_option maxRecDepth 65536 in
theorem w_c12 : (Jvm.Cond.code ({ cls := "java/util/ArrayList", name := "grow", desc := "()[Ljava/lang/Object;" } : Jvm.MethodName) jdk_38_method_7_code (1 : Nat) (Option.some (Jvm.ClassFile.FieldType.array (Jvm.ClassFile.FieldType.object "java/lang/Object")))).before args0 about1 = true := code_word (m := ⟨11, 3⟩) (meth := k11m3) (c := k11c3) (by decide +kernel) rfl rfl rfl (by decide +kernel)
set_option maxRecDepth 65536 in
theorem w_c13 : (Jvm.Cond.code ({ cls := "java/util/ArrayList", name := "grow", desc := "(I)[Ljava/lang/Object;" } : Jvm.MethodName) jdk_38_method_6_code (4 : Nat) (Option.some (Jvm.ClassFile.FieldType.array (Jvm.ClassFile.FieldType.object "java/lang/Object")))).before args0 about1 = true := code_word (m := ⟨11, 2⟩) (meth := k11m2) (c := k11c2) (by decide +kernel) rfl rfl rfl (by decide +kernel)
set_option maxRecDepth 65536 in
theorem w_c14 : (Jvm.Cond.code ({ cls := "java/lang/Math", name := "max", desc := "(II)I" } : Jvm.MethodName) jdk_29_method_65_code (2 : Nat) (Option.some Jvm.ClassFile.FieldType.int)).before args0 about1 = true := code_word (m := ⟨17, 3⟩) (meth := k17m3) (c := k17c3) (by decide +kernel) rfl rfl rfl (by decide +kernel)
set_option maxRecDepth 65536 in
theorem w_c15 : (Jvm.Cond.code ({ cls := "com/example/matchwright/matchwright/core/MatchObject", name := "<init>", desc := "(Ljava/lang/String;Ljava/util/List;)V" } : Jvm.MethodName) prog_29_method_1_code (10 : Nat) (Option.none : Option Jvm.ClassFile.FieldType)).before args0 about1 = true := code_word (m := ⟨19, 0⟩) (meth := k19m0) (c := k19c0) (by decide +kernel) rfl rfl rfl (by decide +kernel)
set_option maxRecDepth 65536 in
theorem w_c16 : (Jvm.Cond.code ({ cls := "java/lang/Record", name := "<init>", desc := "()V" } : Jvm.MethodName) jdk_30_method_1_code (1 : Nat) (Option.none : Option Jvm.ClassFile.FieldType)).before args0 about1 = true := code_word (m := ⟨18, 0⟩) (meth := k18m0) (c := k18c0) (by decide +kernel) rfl rfl rfl (by decide +kernel)
set_option maxRecDepth 65536 in
theorem w_c17 : (Jvm.Cond.code ({ cls := "java/util/Objects", name := "requireNonNull", desc := "(Ljava/lang/Object;Ljava/lang/String;)Ljava/lang/Object;" } : Jvm.MethodName) jdk_31_method_11_code (2 : Nat) (Option.some (Jvm.ClassFile.FieldType.object "java/lang/Object"))).before args0 about1 = true := code_word (m := ⟨22, 2⟩) (meth := k22m2) (c := k22c2) (by decide +kernel) rfl rfl rfl (by decide +kernel)
set_option maxRecDepth 65536 in
theorem w_c18 : (Jvm.Cond.code ({ cls := "java/util/ArrayList", name := "isEmpty", desc := "()Z" } : Jvm.MethodName) jdk_38_method_9_code (1 : Nat) (Option.some Jvm.ClassFile.FieldType.boolean)).before args0 about1 = true := code_word (m := ⟨11, 5⟩) (meth := k11m5) (c := k11c5) (by decide +kernel) rfl rfl rfl (by decide +kernel)
set_option maxRecDepth 65536 in
theorem w_c19 : (Jvm.Cond.code ({ cls := "java/util/ArrayList", name := "get", desc := "(I)Ljava/lang/Object;" } : Jvm.MethodName) jdk_38_method_20_code (2 : Nat) (Option.some (Jvm.ClassFile.FieldType.object "java/lang/Object"))).before args0 about1 = true := code_word (m := ⟨11, 8⟩) (meth := k11m8) (c := k11c8) (by decide +kernel) rfl rfl rfl (by decide +kernel)
set_option maxRecDepth 65536 in
theorem w_c20 : (Jvm.Cond.code ({ cls := "java/util/Objects", name := "checkIndex", desc := "(II)I" } : Jvm.MethodName) jdk_31_method_17_code (2 : Nat) (Option.some Jvm.ClassFile.FieldType.int)).before args0 about1 = true := code_word (m := ⟨22, 3⟩) (meth := k22m3) (c := k22c3) (by decide +kernel) rfl rfl rfl (by decide +kernel)
set_option maxRecDepth 65536 in
theorem w_c21 : (Jvm.Cond.code ({ cls := "jdk/internal/util/Preconditions", name := "checkIndex", desc := "(IILjava/util/function/BiFunction;)I" } : Jvm.MethodName) jdk_41_method_11_code (3 : Nat) (Option.some Jvm.ClassFile.FieldType.int)).before args0 about1 = true := code_word (m := ⟨23, 1⟩) (meth := k23m1) (c := k23c1) (by decide +kernel) rfl rfl rfl (by decide +kernel)
set_option maxRecDepth 65536 in
theorem w_c22 : (Jvm.Cond.code ({ cls := "java/util/ArrayList", name := "elementData", desc := "(I)Ljava/lang/Object;" } : Jvm.MethodName) jdk_38_method_18_code (2 : Nat) (Option.some (Jvm.ClassFile.FieldType.object "java/lang/Object"))).before args0 about1 = true := code_word (m := ⟨11, 7⟩) (meth := k11m7) (c := k11c7) (by decide +kernel) rfl rfl rfl (by decide +kernel)
set_option maxRecDepth 65536 in
theorem w_c23 : (Jvm.Cond.code ({ cls := "java/util/ArrayList", name := "size", desc := "()I" } : Jvm.MethodName) jdk_38_method_8_code (1 : Nat) (Option.some Jvm.ClassFile.FieldType.int)).before args0 about1 = true := code_word (m := ⟨11, 4⟩) (meth := k11m4) (c := k11c4) (by decide +kernel) rfl rfl rfl (by decide +kernel)
set_option maxRecDepth 65536 in
theorem w_c24 : (Jvm.Cond.code ({ cls := "java/util/ArrayList", name := "<init>", desc := "(I)V" } : Jvm.MethodName) jdk_38_method_1_code (2 : Nat) (Option.none : Option Jvm.ClassFile.FieldType)).before args0 about1 = true := code_word (m := ⟨11, 0⟩) (meth := k11m0) (c := k11c0) (by decide +kernel) rfl rfl rfl (by decide +kernel)
set_option maxRecDepth 65536 in
theorem w_c25 : (Jvm.Cond.code ({ cls := "java/util/ArrayList", name := "iterator", desc := "()Ljava/util/Iterator;" } : Jvm.MethodName) jdk_38_method_55_code (1 : Nat) (Option.some (Jvm.ClassFile.FieldType.object "java/util/Iterator"))).before args0 about1 = true := code_word (m := ⟨11, 11⟩) (meth := k11m11) (c := k11c11) (by decide +kernel) rfl rfl rfl (by decide +kernel)
set_option maxRecDepth 65536 in
theorem w_c26 : (Jvm.Cond.code ({ cls := "java/util/ArrayList$Itr", name := "<init>", desc := "(Ljava/util/ArrayList;)V" } : Jvm.MethodName) jdk_49_method_1_code (2 : Nat) (Option.none : Option Jvm.ClassFile.FieldType)).before args0 about1 = true := code_word (m := ⟨25, 0⟩) (meth := k25m0) (c := k25c0) (by decide +kernel) rfl rfl rfl (by decide +kernel)
set_option maxRecDepth 65536 in
theorem w_c27 : (Jvm.Cond.code ({ cls := "java/util/ArrayList$Itr", name := "hasNext", desc := "()Z" } : Jvm.MethodName) jdk_49_method_2_code (1 : Nat) (Option.some Jvm.ClassFile.FieldType.boolean)).before args0 about1 = true := code_word (m := ⟨25, 1⟩) (meth := k25m1) (c := k25c1) (by decide +kernel) rfl rfl rfl (by decide +kernel)
set_option maxRecDepth 65536 in
theorem w_c28 : (Jvm.Cond.code ({ cls := "java/util/ArrayList$Itr", name := "next", desc := "()Ljava/lang/Object;" } : Jvm.MethodName) jdk_49_method_3_code (3 : Nat) (Option.some (Jvm.ClassFile.FieldType.object "java/lang/Object"))).before args0 about1 = true := code_word (m := ⟨25, 2⟩) (meth := k25m2) (c := k25c2) (by decide +kernel) rfl rfl rfl (by decide +kernel)
set_option maxRecDepth 65536 in
theorem w_c29 : (Jvm.Cond.code ({ cls := "java/util/ArrayList$Itr", name := "checkForComodification", desc := "()V" } : Jvm.MethodName) jdk_49_method_6_code (1 : Nat) (Option.none : Option Jvm.ClassFile.FieldType)).before args0 about1 = true := code_word (m := ⟨25, 3⟩) (meth := k25m3) (c := k25c3) (by decide +kernel) rfl rfl rfl (by decide +kernel)
set_option maxRecDepth 65536 in
theorem w_c30 : (Jvm.Cond.code ({ cls := "java/lang/Double", name := "doubleValue", desc := "()D" } : Jvm.MethodName) jdk_117_method_19_code (1 : Nat) (Option.some Jvm.ClassFile.FieldType.double)).before args0 about1 = true := code_word (m := ⟨16, 3⟩) (meth := k16m3) (c := k16c3) (by decide +kernel) rfl rfl rfl (by decide +kernel)
set_option maxRecDepth 65536 in
theorem w_c31 : (Jvm.Cond.code ({ cls := "java/lang/Double", name := "isFinite", desc := "(D)Z" } : Jvm.MethodName) jdk_117_method_8_code (2 : Nat) (Option.some Jvm.ClassFile.FieldType.boolean)).before args0 about1 = true := code_word (m := ⟨16, 1⟩) (meth := k16m1) (c := k16c1) (by decide +kernel) rfl rfl rfl (by decide +kernel)
set_option maxRecDepth 65536 in
theorem w_c32 : (Jvm.Cond.code ({ cls := "java/lang/Math", name := "abs", desc := "(D)D" } : Jvm.MethodName) jdk_29_method_64_code (2 : Nat) (Option.some Jvm.ClassFile.FieldType.double)).before args0 about1 = true := code_word (m := ⟨17, 2⟩) (meth := k17m2) (c := k17c2) (by decide +kernel) rfl rfl rfl (by decide +kernel)
set_option maxRecDepth 65536 in
theorem w_c33 : (Jvm.Cond.code ({ cls := "java/util/List", name := "copyOf", desc := "(Ljava/util/Collection;)Ljava/util/List;" } : Jvm.MethodName) jdk_40_method_48_code (1 : Nat) (Option.some (Jvm.ClassFile.FieldType.object "java/util/List"))).before args0 about1 = true := code_word (m := ⟨6, 6⟩) (meth := k6m6) (c := k6c6) (by decide +kernel) rfl rfl rfl (by decide +kernel)
set_option maxRecDepth 65536 in
theorem w_c34 : (Jvm.Cond.code ({ cls := "java/util/ImmutableCollections", name := "listCopy", desc := "(Ljava/util/Collection;)Ljava/util/List;" } : Jvm.MethodName) jdk_56_method_3_code (2 : Nat) (Option.some (Jvm.ClassFile.FieldType.object "java/util/List"))).before args0 about1 = true := code_word (m := ⟨26, 1⟩) (meth := k26m1) (c := k26c1) (by decide +kernel) rfl rfl rfl (by decide +kernel)
set_option maxRecDepth 65536 in
theorem w_c35 : (Jvm.Cond.code ({ cls := "java/util/ArrayList", name := "toArray", desc := "()[Ljava/lang/Object;" } : Jvm.MethodName) jdk_38_method_16_code (1 : Nat) (Option.some (Jvm.ClassFile.FieldType.array (Jvm.ClassFile.FieldType.object "java/lang/Object")))).before args0 about1 = true := code_word (m := ⟨11, 6⟩) (meth := k11m6) (c := k11c6) (by decide +kernel) rfl rfl rfl (by decide +kernel)
set_option maxRecDepth 65536 in
theorem w_c36 : (Jvm.Cond.code ({ cls := "java/util/Arrays", name := "copyOf", desc := "([Ljava/lang/Object;I)[Ljava/lang/Object;" } : Jvm.MethodName) jdk_65_method_119_code (2 : Nat) (Option.some (Jvm.ClassFile.FieldType.array (Jvm.ClassFile.FieldType.object "java/lang/Object")))).before args0 about1 = true := code_word (m := ⟨31, 1⟩) (meth := k31m1) (c := k31c1) (by decide +kernel) rfl rfl rfl (by decide +kernel)
set_option maxRecDepth 65536 in
theorem w_c37 : (Jvm.Cond.code ({ cls := "java/util/Arrays", name := "copyOf", desc := "([Ljava/lang/Object;ILjava/lang/Class;)[Ljava/lang/Object;" } : Jvm.MethodName) jdk_65_method_120_code (4 : Nat) (Option.some (Jvm.ClassFile.FieldType.array (Jvm.ClassFile.FieldType.object "java/lang/Object")))).before args0 about1 = true := code_word (m := ⟨31, 2⟩) (meth := k31m2) (c := k31c2) (by decide +kernel) rfl rfl rfl (by decide +kernel)
set_option maxRecDepth 65536 in
theorem w_c38 : (Jvm.Cond.code ({ cls := "java/lang/Math", name := "min", desc := "(II)I" } : Jvm.MethodName) jdk_29_method_69_code (2 : Nat) (Option.some Jvm.ClassFile.FieldType.int)).before args0 about1 = true := code_word (m := ⟨17, 4⟩) (meth := k17m4) (c := k17c4) (by decide +kernel) rfl rfl rfl (by decide +kernel)
set_option maxRecDepth 65536 in
theorem w_c39 : (Jvm.Cond.code ({ cls := "java/util/List", name := "of", desc := "([Ljava/lang/Object;)Ljava/util/List;" } : Jvm.MethodName) jdk_40_method_47_code (2 : Nat) (Option.some (Jvm.ClassFile.FieldType.object "java/util/List"))).before args0 about1 = true := code_word (m := ⟨6, 5⟩) (meth := k6m5) (c := k6c5) (by decide +kernel) rfl rfl rfl (by decide +kernel)
set_option maxRecDepth 65536 in
theorem w_c40 : (Jvm.Cond.code ({ cls := "java/util/ImmutableCollections", name := "listFromArray", desc := "([Ljava/lang/Object;)Ljava/util/List;" } : Jvm.MethodName) jdk_56_method_4_code (3 : Nat) (Option.some (Jvm.ClassFile.FieldType.object "java/util/List"))).before args0 about1 = true := code_word (m := ⟨26, 2⟩) (meth := k26m2) (c := k26c2) (by decide +kernel) rfl rfl rfl (by decide +kernel)
set_option maxRecDepth 65536 in
theorem w_c41 : (Jvm.Cond.code ({ cls := "java/util/Objects", name := "requireNonNull", desc := "(Ljava/lang/Object;)Ljava/lang/Object;" } : Jvm.MethodName) jdk_31_method_10_code (1 : Nat) (Option.some (Jvm.ClassFile.FieldType.object "java/lang/Object"))).before args0 about1 = true := code_word (m := ⟨22, 1⟩) (meth := k22m1) (c := k22c1) (by decide +kernel) rfl rfl rfl (by decide +kernel)
set_option maxRecDepth 65536 in
theorem w_c42 : (Jvm.Cond.code ({ cls := "java/util/ImmutableCollections$ListN", name := "<init>", desc := "([Ljava/lang/Object;Z)V" } : Jvm.MethodName) jdk_45_method_1_code (3 : Nat) (Option.none : Option Jvm.ClassFile.FieldType)).before args0 about1 = true := code_word (m := ⟨30, 0⟩) (meth := k30m0) (c := k30c0) (by decide +kernel) rfl rfl rfl (by decide +kernel)
set_option maxRecDepth 65536 in
theorem w_c43 : (Jvm.Cond.code ({ cls := "java/util/ImmutableCollections$AbstractImmutableList", name := "<init>", desc := "()V" } : Jvm.MethodName) jdk_46_method_1_code (1 : Nat) (Option.none : Option Jvm.ClassFile.FieldType)).before args0 about1 = true := code_word (m := ⟨28, 0⟩) (meth := k28m0) (c := k28c0) (by decide +kernel) rfl rfl rfl (by decide +kernel)
set_option maxRecDepth 65536 in
theorem w_c44 : (Jvm.Cond.code ({ cls := "java/util/ImmutableCollections$AbstractImmutableCollection", name := "<init>", desc := "()V" } : Jvm.MethodName) jdk_47_method_1_code (1 : Nat) (Option.none : Option Jvm.ClassFile.FieldType)).before args0 about1 = true := code_word (m := ⟨27, 0⟩) (meth := k27m0) (c := k27c0) (by decide +kernel) rfl rfl rfl (by decide +kernel)
set_option maxRecDepth 65536 in
theorem w_c45 : (Jvm.Cond.code ({ cls := "java/util/ImmutableCollections$List12", name := "<init>", desc := "(Ljava/lang/Object;Ljava/lang/Object;)V" } : Jvm.MethodName) jdk_44_method_2_code (3 : Nat) (Option.none : Option Jvm.ClassFile.FieldType)).before args0 about1 = true := code_word (m := ⟨29, 0⟩) (meth := k29m0) (c := k29c0) (by decide +kernel) rfl rfl rfl (by decide +kernel)
set_option maxRecDepth 65536 in
theorem w_c46 : (Jvm.Cond.code ({ cls := "com/example/matchwright/matchwright/core/InstanceVectors", name := "<init>", desc := "(Ljava/util/List;)V" } : Jvm.MethodName) prog_26_method_1_code (10 : Nat) (Option.none : Option Jvm.ClassFile.FieldType)).before args0 about1 = true := code_word (m := ⟨33, 0⟩) (meth := k33m0) (c := k33c0) (by decide +kernel) rfl rfl rfl (by decide +kernel)
set_option maxRecDepth 65536 in
theorem w_c47 : (Jvm.Cond.code ({ cls := "com/example/matchwright/matchwright/core/MatchObject", name := "vectors", desc := "()Ljava/util/List;" } : Jvm.MethodName) prog_29_method_7_code (1 : Nat) (Option.some (Jvm.ClassFile.FieldType.object "java/util/List"))).before args0 about1 = true := code_word (m := ⟨19, 1⟩) (meth := k19m1) (c := k19c1) (by decide +kernel) rfl rfl rfl (by decide +kernel)
set_option maxRecDepth 65536 in
theorem w_c48 : (Jvm.Cond.code ({ cls := "java/util/ImmutableCollections$List12", name := "size", desc := "()I" } : Jvm.MethodName) jdk_44_method_3_code (1 : Nat) (Option.some Jvm.ClassFile.FieldType.int)).before args0 about1 = true := code_word (m := ⟨29, 1⟩) (meth := k29m1) (c := k29c1) (by decide +kernel) rfl rfl rfl (by decide +kernel)
set_option maxRecDepth 65536 in
theorem w_c49 : (Jvm.Cond.code ({ cls := "java/util/ImmutableCollections$List12", name := "get", desc := "(I)Ljava/lang/Object;" } : Jvm.MethodName) jdk_44_method_5_code (2 : Nat) (Option.some (Jvm.ClassFile.FieldType.object "java/lang/Object"))).before args0 about1 = true := code_word (m := ⟨29, 2⟩) (meth := k29m2) (c := k29c2) (by decide +kernel) rfl rfl rfl (by decide +kernel)
set_option maxRecDepth 65536 in
theorem w_c50 : (Jvm.Cond.code ({ cls := "java/util/ImmutableCollections$ListN", name := "size", desc := "()I" } : Jvm.MethodName) jdk_45_method_3_code (1 : Nat) (Option.some Jvm.ClassFile.FieldType.int)).before args0 about1 = true := code_word (m := ⟨30, 1⟩) (meth := k30m1) (c := k30c1) (by decide +kernel) rfl rfl rfl (by decide +kernel)
set_option maxRecDepth 65536 in
theorem w_c51 : (Jvm.Cond.code ({ cls := "java/lang/Math", name := "toIntExact", desc := "(J)I" } : Jvm.MethodName) jdk_29_method_43_code (2 : Nat) (Option.some Jvm.ClassFile.FieldType.int)).before args0 about1 = true := code_word (m := ⟨17, 1⟩) (meth := k17m1) (c := k17c1) (by decide +kernel) rfl rfl rfl (by decide +kernel)
set_option maxRecDepth 65536 in
theorem w_c52 : (Jvm.Cond.code ({ cls := "java/util/ImmutableCollections$AbstractImmutableList", name := "iterator", desc := "()Ljava/util/Iterator;" } : Jvm.MethodName) jdk_46_method_10_code (1 : Nat) (Option.some (Jvm.ClassFile.FieldType.object "java/util/Iterator"))).before args0 about1 = true := code_word (m := ⟨28, 1⟩) (meth := k28m1) (c := k28c1) (by decide +kernel) rfl rfl rfl (by decide +kernel)
set_option maxRecDepth 65536 in
theorem w_c53 : (Jvm.Cond.code ({ cls := "java/util/ImmutableCollections$ListItr", name := "<init>", desc := "(Ljava/util/List;I)V" } : Jvm.MethodName) jdk_53_method_1_code (3 : Nat) (Option.none : Option Jvm.ClassFile.FieldType)).before args0 about1 = true := code_word (m := ⟨35, 0⟩) (meth := k35m0) (c := k35c0) (by decide +kernel) rfl rfl rfl (by decide +kernel)
set_option maxRecDepth 65536 in
theorem w_c54 : (Jvm.Cond.code ({ cls := "java/util/ImmutableCollections$ListItr", name := "hasNext", desc := "()Z" } : Jvm.MethodName) jdk_53_method_3_code (1 : Nat) (Option.some Jvm.ClassFile.FieldType.boolean)).before args0 about1 = true := code_word (m := ⟨35, 1⟩) (meth := k35m1) (c := k35c1) (by decide +kernel) rfl rfl rfl (by decide +kernel)
set_option maxRecDepth 65536 in
theorem w_c55 : (Jvm.Cond.code ({ cls := "java/util/ImmutableCollections$ListN", name := "get", desc := "(I)Ljava/lang/Object;" } : Jvm.MethodName) jdk_45_method_4_code (2 : Nat) (Option.some (Jvm.ClassFile.FieldType.object "java/lang/Object"))).before args0 about1 = true := code_word (m := ⟨30, 2⟩) (meth := k30m2) (c := k30c2) (by decide +kernel) rfl rfl rfl (by decide +kernel)
set_option maxRecDepth 65536 in
theorem w_c56 : (Jvm.Cond.code ({ cls := "com/example/matchwright/matchwright/core/InstanceVectors", name := "sumOf", desc := "(I)D" } : Jvm.MethodName) prog_26_method_14_code (5 : Nat) (Option.some Jvm.ClassFile.FieldType.double)).before args0 about1 = true := code_word (m := ⟨33, 2⟩) (meth := k33m2) (c := k33c2) (by decide +kernel) rfl rfl rfl (by decide +kernel)
set_option maxRecDepth 65536 in
theorem w_c57 : (Jvm.Cond.code ({ cls := "com/example/matchwright/matchwright/core/InstanceVectors", name := "score", desc := "(II)D" } : Jvm.MethodName) prog_26_method_6_code (3 : Nat) (Option.some Jvm.ClassFile.FieldType.double)).before args0 about1 = true := code_word (m := ⟨33, 1⟩) (meth := k33m1) (c := k33c1) (by decide +kernel) rfl rfl rfl (by decide +kernel)
def codes1 : List Jvm.Cond := [Jvm.Cond.code x code maxLocals ret, Jvm.Cond.code ({ cls := "java/util/ArrayList", name := "<init>", desc := "()V" } : Jvm.MethodName) jdk_38_method_2_code (1 : Nat) (Option.none : Option Jvm.ClassFile.FieldType), Jvm.Cond.code ({ cls := "java/util/AbstractList", name := "<init>", desc := "()V" } : Jvm.MethodName) jdk_39_method_1_code (1 : Nat) (Option.none : Option Jvm.ClassFile.FieldType), Jvm.Cond.code ({ cls := "java/util/AbstractCollection", name := "<init>", desc := "()V" } : Jvm.MethodName) jdk_22_method_1_code (1 : Nat) (Option.none : Option Jvm.ClassFile.FieldType), Jvm.Cond.code ({ cls := "java/lang/Object", name := "<init>", desc := "()V" } : Jvm.MethodName) object_method_1_code (1 : Nat) (Option.none : Option Jvm.ClassFile.FieldType), Jvm.Cond.code ({ cls := "com/example/matchwright/matchwright/core/InstanceVectorsScorePinLaw", name := "vec", desc := "(III)Ljava/util/List;" } : Jvm.MethodName) method_3_code (4 : Nat) (Option.some (Jvm.ClassFile.FieldType.object "java/util/List")), Jvm.Cond.code ({ cls := "com/example/matchwright/matchwright/core/InstanceVectorsScorePinLaw", name := "val", desc := "(III)D" } : Jvm.MethodName) method_2_code (3 : Nat) (Option.some Jvm.ClassFile.FieldType.double), Jvm.Cond.code ({ cls := "java/lang/Double", name := "valueOf", desc := "(D)Ljava/lang/Double;" } : Jvm.MethodName) jdk_117_method_4_code (2 : Nat) (Option.some (Jvm.ClassFile.FieldType.object "java/lang/Double")), Jvm.Cond.code ({ cls := "java/lang/Double", name := "<init>", desc := "(D)V" } : Jvm.MethodName) jdk_117_method_9_code (3 : Nat) (Option.none : Option Jvm.ClassFile.FieldType), Jvm.Cond.code ({ cls := "java/lang/Number", name := "<init>", desc := "()V" } : Jvm.MethodName) jdk_18_method_1_code (1 : Nat) (Option.none : Option Jvm.ClassFile.FieldType), Jvm.Cond.code ({ cls := "java/util/ArrayList", name := "add", desc := "(Ljava/lang/Object;)Z" } : Jvm.MethodName) jdk_38_method_25_code (2 : Nat) (Option.some Jvm.ClassFile.FieldType.boolean), Jvm.Cond.code ({ cls := "java/util/ArrayList", name := "add", desc := "(Ljava/lang/Object;[Ljava/lang/Object;I)V" } : Jvm.MethodName) jdk_38_method_24_code (4 : Nat) (Option.none : Option Jvm.ClassFile.FieldType), Jvm.Cond.code ({ cls := "java/util/ArrayList", name := "grow", desc := "()[Ljava/lang/Object;" } : Jvm.MethodName) jdk_38_method_7_code (1 : Nat) (Option.some (Jvm.ClassFile.FieldType.array (Jvm.ClassFile.FieldType.object "java/lang/Object"))), Jvm.Cond.code ({ cls := "java/util/ArrayList", name := "grow", desc := "(I)[Ljava/lang/Object;" } : Jvm.MethodName) jdk_38_method_6_code (4 : Nat) (Option.some (Jvm.ClassFile.FieldType.array (Jvm.ClassFile.FieldType.object "java/lang/Object"))), Jvm.Cond.code ({ cls := "java/lang/Math", name := "max", desc := "(II)I" } : Jvm.MethodName) jdk_29_method_65_code (2 : Nat) (Option.some Jvm.ClassFile.FieldType.int), Jvm.Cond.code ({ cls := "com/example/matchwright/matchwright/core/MatchObject", name := "<init>", desc := "(Ljava/lang/String;Ljava/util/List;)V" } : Jvm.MethodName) prog_29_method_1_code (10 : Nat) (Option.none : Option Jvm.ClassFile.FieldType), Jvm.Cond.code ({ cls := "java/lang/Record", name := "<init>", desc := "()V" } : Jvm.MethodName) jdk_30_method_1_code (1 : Nat) (Option.none : Option Jvm.ClassFile.FieldType), Jvm.Cond.code ({ cls := "java/util/Objects", name := "requireNonNull", desc := "(Ljava/lang/Object;Ljava/lang/String;)Ljava/lang/Object;" } : Jvm.MethodName) jdk_31_method_11_code (2 : Nat) (Option.some (Jvm.ClassFile.FieldType.object "java/lang/Object")), Jvm.Cond.code ({ cls := "java/util/ArrayList", name := "isEmpty", desc := "()Z" } : Jvm.MethodName) jdk_38_method_9_code (1 : Nat) (Option.some Jvm.ClassFile.FieldType.boolean), Jvm.Cond.code ({ cls := "java/util/ArrayList", name := "get", desc := "(I)Ljava/lang/Object;" } : Jvm.MethodName) jdk_38_method_20_code (2 : Nat) (Option.some (Jvm.ClassFile.FieldType.object "java/lang/Object")), Jvm.Cond.code ({ cls := "java/util/Objects", name := "checkIndex", desc := "(II)I" } : Jvm.MethodName) jdk_31_method_17_code (2 : Nat) (Option.some Jvm.ClassFile.FieldType.int), Jvm.Cond.code ({ cls := "jdk/internal/util/Preconditions", name := "checkIndex", desc := "(IILjava/util/function/BiFunction;)I" } : Jvm.MethodName) jdk_41_method_11_code (3 : Nat) (Option.some Jvm.ClassFile.FieldType.int), Jvm.Cond.code ({ cls := "java/util/ArrayList", name := "elementData", desc := "(I)Ljava/lang/Object;" } : Jvm.MethodName) jdk_38_method_18_code (2 : Nat) (Option.some (Jvm.ClassFile.FieldType.object "java/lang/Object")), Jvm.Cond.code ({ cls := "java/util/ArrayList", name := "size", desc := "()I" } : Jvm.MethodName) jdk_38_method_8_code (1 : Nat) (Option.some Jvm.ClassFile.FieldType.int), Jvm.Cond.code ({ cls := "java/util/ArrayList", name := "<init>", desc := "(I)V" } : Jvm.MethodName) jdk_38_method_1_code (2 : Nat) (Option.none : Option Jvm.ClassFile.FieldType), Jvm.Cond.code ({ cls := "java/util/ArrayList", name := "iterator", desc := "()Ljava/util/Iterator;" } : Jvm.MethodName) jdk_38_method_55_code (1 : Nat) (Option.some (Jvm.ClassFile.FieldType.object "java/util/Iterator")), Jvm.Cond.code ({ cls := "java/util/ArrayList$Itr", name := "<init>", desc := "(Ljava/util/ArrayList;)V" } : Jvm.MethodName) jdk_49_method_1_code (2 : Nat) (Option.none : Option Jvm.ClassFile.FieldType), Jvm.Cond.code ({ cls := "java/util/ArrayList$Itr", name := "hasNext", desc := "()Z" } : Jvm.MethodName) jdk_49_method_2_code (1 : Nat) (Option.some Jvm.ClassFile.FieldType.boolean), Jvm.Cond.code ({ cls := "java/util/ArrayList$Itr", name := "next", desc := "()Ljava/lang/Object;" } : Jvm.MethodName) jdk_49_method_3_code (3 : Nat) (Option.some (Jvm.ClassFile.FieldType.object "java/lang/Object")), Jvm.Cond.code ({ cls := "java/util/ArrayList$Itr", name := "checkForComodification", desc := "()V" } : Jvm.MethodName) jdk_49_method_6_code (1 : Nat) (Option.none : Option Jvm.ClassFile.FieldType), Jvm.Cond.code ({ cls := "java/lang/Double", name := "doubleValue", desc := "()D" } : Jvm.MethodName) jdk_117_method_19_code (1 : Nat) (Option.some Jvm.ClassFile.FieldType.double), Jvm.Cond.code ({ cls := "java/lang/Double", name := "isFinite", desc := "(D)Z" } : Jvm.MethodName) jdk_117_method_8_code (2 : Nat) (Option.some Jvm.ClassFile.FieldType.boolean), Jvm.Cond.code ({ cls := "java/lang/Math", name := "abs", desc := "(D)D" } : Jvm.MethodName) jdk_29_method_64_code (2 : Nat) (Option.some Jvm.ClassFile.FieldType.double), Jvm.Cond.code ({ cls := "java/util/List", name := "copyOf", desc := "(Ljava/util/Collection;)Ljava/util/List;" } : Jvm.MethodName) jdk_40_method_48_code (1 : Nat) (Option.some (Jvm.ClassFile.FieldType.object "java/util/List")), Jvm.Cond.code ({ cls := "java/util/ImmutableCollections", name := "listCopy", desc := "(Ljava/util/Collection;)Ljava/util/List;" } : Jvm.MethodName) jdk_56_method_3_code (2 : Nat) (Option.some (Jvm.ClassFile.FieldType.object "java/util/List")), Jvm.Cond.code ({ cls := "java/util/ArrayList", name := "toArray", desc := "()[Ljava/lang/Object;" } : Jvm.MethodName) jdk_38_method_16_code (1 : Nat) (Option.some (Jvm.ClassFile.FieldType.array (Jvm.ClassFile.FieldType.object "java/lang/Object"))), Jvm.Cond.code ({ cls := "java/util/Arrays", name := "copyOf", desc := "([Ljava/lang/Object;I)[Ljava/lang/Object;" } : Jvm.MethodName) jdk_65_method_119_code (2 : Nat) (Option.some (Jvm.ClassFile.FieldType.array (Jvm.ClassFile.FieldType.object "java/lang/Object"))), Jvm.Cond.code ({ cls := "java/util/Arrays", name := "copyOf", desc := "([Ljava/lang/Object;ILjava/lang/Class;)[Ljava/lang/Object;" } : Jvm.MethodName) jdk_65_method_120_code (4 : Nat) (Option.some (Jvm.ClassFile.FieldType.array (Jvm.ClassFile.FieldType.object "java/lang/Object"))), Jvm.Cond.code ({ cls := "java/lang/Math", name := "min", desc := "(II)I" } : Jvm.MethodName) jdk_29_method_69_code (2 : Nat) (Option.some Jvm.ClassFile.FieldType.int), Jvm.Cond.code ({ cls := "java/util/List", name := "of", desc := "([Ljava/lang/Object;)Ljava/util/List;" } : Jvm.MethodName) jdk_40_method_47_code (2 : Nat) (Option.some (Jvm.ClassFile.FieldType.object "java/util/List")), Jvm.Cond.code ({ cls := "java/util/ImmutableCollections", name := "listFromArray", desc := "([Ljava/lang/Object;)Ljava/util/List;" } : Jvm.MethodName) jdk_56_method_4_code (3 : Nat) (Option.some (Jvm.ClassFile.FieldType.object "java/util/List")), Jvm.Cond.code ({ cls := "java/util/Objects", name := "requireNonNull", desc := "(Ljava/lang/Object;)Ljava/lang/Object;" } : Jvm.MethodName) jdk_31_method_10_code (1 : Nat) (Option.some (Jvm.ClassFile.FieldType.object "java/lang/Object")), Jvm.Cond.code ({ cls := "java/util/ImmutableCollections$ListN", name := "<init>", desc := "([Ljava/lang/Object;Z)V" } : Jvm.MethodName) jdk_45_method_1_code (3 : Nat) (Option.none : Option Jvm.ClassFile.FieldType), Jvm.Cond.code ({ cls := "java/util/ImmutableCollections$AbstractImmutableList", name := "<init>", desc := "()V" } : Jvm.MethodName) jdk_46_method_1_code (1 : Nat) (Option.none : Option Jvm.ClassFile.FieldType), Jvm.Cond.code ({ cls := "java/util/ImmutableCollections$AbstractImmutableCollection", name := "<init>", desc := "()V" } : Jvm.MethodName) jdk_47_method_1_code (1 : Nat) (Option.none : Option Jvm.ClassFile.FieldType), Jvm.Cond.code ({ cls := "java/util/ImmutableCollections$List12", name := "<init>", desc := "(Ljava/lang/Object;Ljava/lang/Object;)V" } : Jvm.MethodName) jdk_44_method_2_code (3 : Nat) (Option.none : Option Jvm.ClassFile.FieldType), Jvm.Cond.code ({ cls := "com/example/matchwright/matchwright/core/InstanceVectors", name := "<init>", desc := "(Ljava/util/List;)V" } : Jvm.MethodName) prog_26_method_1_code (10 : Nat) (Option.none : Option Jvm.ClassFile.FieldType), Jvm.Cond.code ({ cls := "com/example/matchwright/matchwright/core/MatchObject", name := "vectors", desc := "()Ljava/util/List;" } : Jvm.MethodName) prog_29_method_7_code (1 : Nat) (Option.some (Jvm.ClassFile.FieldType.object "java/util/List")), Jvm.Cond.code ({ cls := "java/util/ImmutableCollections$List12", name := "size", desc := "()I" } : Jvm.MethodName) jdk_44_method_3_code (1 : Nat) (Option.some Jvm.ClassFile.FieldType.int), Jvm.Cond.code ({ cls := "java/util/ImmutableCollections$List12", name := "get", desc := "(I)Ljava/lang/Object;" } : Jvm.MethodName) jdk_44_method_5_code (2 : Nat) (Option.some (Jvm.ClassFile.FieldType.object "java/lang/Object")), Jvm.Cond.code ({ cls := "java/util/ImmutableCollections$ListN", name := "size", desc := "()I" } : Jvm.MethodName) jdk_45_method_3_code (1 : Nat) (Option.some Jvm.ClassFile.FieldType.int), Jvm.Cond.code ({ cls := "java/lang/Math", name := "toIntExact", desc := "(J)I" } : Jvm.MethodName) jdk_29_method_43_code (2 : Nat) (Option.some Jvm.ClassFile.FieldType.int), Jvm.Cond.code ({ cls := "java/util/ImmutableCollections$AbstractImmutableList", name := "iterator", desc := "()Ljava/util/Iterator;" } : Jvm.MethodName) jdk_46_method_10_code (1 : Nat) (Option.some (Jvm.ClassFile.FieldType.object "java/util/Iterator")), Jvm.Cond.code ({ cls := "java/util/ImmutableCollections$ListItr", name := "<init>", desc := "(Ljava/util/List;I)V" } : Jvm.MethodName) jdk_53_method_1_code (3 : Nat) (Option.none : Option Jvm.ClassFile.FieldType), Jvm.Cond.code ({ cls := "java/util/ImmutableCollections$ListItr", name := "hasNext", desc := "()Z" } : Jvm.MethodName) jdk_53_method_3_code (1 : Nat) (Option.some Jvm.ClassFile.FieldType.boolean), Jvm.Cond.code ({ cls := "java/util/ImmutableCollections$ListN", name := "get", desc := "(I)Ljava/lang/Object;" } : Jvm.MethodName) jdk_45_method_4_code (2 : Nat) (Option.some (Jvm.ClassFile.FieldType.object "java/lang/Object")), Jvm.Cond.code ({ cls := "com/example/matchwright/matchwright/core/InstanceVectors", name := "sumOf", desc := "(I)D" } : Jvm.MethodName) prog_26_method_14_code (5 : Nat) (Option.some Jvm.ClassFile.FieldType.double), Jvm.Cond.code ({ cls := "com/example/matchwright/matchwright/core/InstanceVectors", name := "score", desc := "(II)D" } : Jvm.MethodName) prog_26_method_6_code (3 : Nat) (Option.some Jvm.ClassFile.FieldType.double)]
set_option maxRecDepth 65536 in
theorem codes_eq : words1.filter isCode = codes1 := rfl
theorem w_codes : ∀ c ∈ words1.filter isCode, c.before args0 about1 = true := by
  rw [codes_eq]
  intro c hc
  simp only [codes1, List.mem_cons, List.not_mem_nil, or_false] at hc
  rcases hc with rfl | rfl | rfl | rfl | rfl | rfl | rfl | rfl | rfl | rfl | rfl | rfl | rfl | rfl | rfl | rfl | rfl | rfl | rfl | rfl | rfl | rfl | rfl | rfl | rfl | rfl | rfl | rfl | rfl | rfl | rfl | rfl | rfl | rfl | rfl | rfl | rfl | rfl | rfl | rfl | rfl | rfl | rfl | rfl | rfl | rfl | rfl | rfl | rfl | rfl | rfl | rfl | rfl | rfl | rfl | rfl | rfl | rfl
  · exact w_c0
  · exact w_c1
  · exact w_c2
  · exact w_c3
  · exact w_c4
  · exact w_c5
  · exact w_c6
  · exact w_c7
  · exact w_c8
  · exact w_c9
  · exact w_c10
  · exact w_c11
  · exact w_c12
  · exact w_c13
  · exact w_c14
  · exact w_c15
  · exact w_c16
  · exact w_c17
  · exact w_c18
  · exact w_c19
  · exact w_c20
  · exact w_c21
  · exact w_c22
  · exact w_c23
  · exact w_c24
  · exact w_c25
  · exact w_c26
  · exact w_c27
  · exact w_c28
  · exact w_c29
  · exact w_c30
  · exact w_c31
  · exact w_c32
  · exact w_c33
  · exact w_c34
  · exact w_c35
  · exact w_c36
  · exact w_c37
  · exact w_c38
  · exact w_c39
  · exact w_c40
  · exact w_c41
  · exact w_c42
  · exact w_c43
  · exact w_c44
  · exact w_c45
  · exact w_c46
  · exact w_c47
  · exact w_c48
  · exact w_c49
  · exact w_c50
  · exact w_c51
  · exact w_c52
  · exact w_c53
  · exact w_c54
  · exact w_c55
  · exact w_c56
  · exact w_c57
set_option maxRecDepth 65536 in
theorem w_t1 : (words1.take 24).all (fun c => isCode c || c.before args0 about1) = true := by decide +kernel
set_option maxRecDepth 65536 in
theorem w_t2 : ((words1.drop 24).take 24).all (fun c => isCode c || c.before args0 about1) = true := by decide +kernel
set_option maxRecDepth 65536 in
theorem w_t3 : (((words1.drop 24).drop 24).take 24).all (fun c => isCode c || c.before args0 about1) = true := by decide +kernel
set_option maxRecDepth 65536 in
theorem w_t4 : ((((words1.drop 24).drop 24).drop 24).take 24).all (fun c => isCode c || c.before args0 about1) = true := by decide +kernel
set_option maxRecDepth 65536 in
theorem w_t5 : (((((words1.drop 24).drop 24).drop 24).drop 24).take 24).all (fun c => isCode c || c.before args0 about1) = true := by decide +kernel
set_option maxRecDepth 65536 in
theorem w_t6 : ((((((words1.drop 24).drop 24).drop 24).drop 24).drop 24).take 24).all (fun c => isCode c || c.before args0 about1) = true := by decide +kernel
set_option maxRecDepth 65536 in
theorem w_t7 : (((((((words1.drop 24).drop 24).drop 24).drop 24).drop 24).drop 24).take 24).all (fun c => isCode c || c.before args0 about1) = true := by decide +kernel
set_option maxRecDepth 65536 in
theorem w_t8 : ((((((((words1.drop 24).drop 24).drop 24).drop 24).drop 24).drop 24).drop 24).take 24).all (fun c => isCode c || c.before args0 about1) = true := by decide +kernel
set_option maxRecDepth 65536 in
theorem w_t9 : (((((((((words1.drop 24).drop 24).drop 24).drop 24).drop 24).drop 24).drop 24).drop 24).take 24).all (fun c => isCode c || c.before args0 about1) = true := by decide +kernel
set_option maxRecDepth 65536 in
theorem w_t10 : ((((((((((words1.drop 24).drop 24).drop 24).drop 24).drop 24).drop 24).drop 24).drop 24).drop 24).take 24).all (fun c => isCode c || c.before args0 about1) = true := by decide +kernel
set_option maxRecDepth 65536 in
theorem w_t11 : (((((((((((words1.drop 24).drop 24).drop 24).drop 24).drop 24).drop 24).drop 24).drop 24).drop 24).drop 24).take 24).all (fun c => isCode c || c.before args0 about1) = true := by decide +kernel
set_option maxRecDepth 65536 in
theorem w_t12 : ((((((((((((words1.drop 24).drop 24).drop 24).drop 24).drop 24).drop 24).drop 24).drop 24).drop 24).drop 24).drop 24).take 24).all (fun c => isCode c || c.before args0 about1) = true := by decide +kernel
set_option maxRecDepth 65536 in
theorem w_t13 : (((((((((((((words1.drop 24).drop 24).drop 24).drop 24).drop 24).drop 24).drop 24).drop 24).drop 24).drop 24).drop 24).drop 24).take 24).all (fun c => isCode c || c.before args0 about1) = true := by decide +kernel
set_option maxRecDepth 65536 in
theorem w_t14 : ((((((((((((((words1.drop 24).drop 24).drop 24).drop 24).drop 24).drop 24).drop 24).drop 24).drop 24).drop 24).drop 24).drop 24).drop 24).take 24).all (fun c => isCode c || c.before args0 about1) = true := by decide +kernel
set_option maxRecDepth 65536 in
theorem w_t15 : (((((((((((((((words1.drop 24).drop 24).drop 24).drop 24).drop 24).drop 24).drop 24).drop 24).drop 24).drop 24).drop 24).drop 24).drop 24).drop 24).take 24).all (fun c => isCode c || c.before args0 about1) = true := by decide +kernel
set_option maxRecDepth 65536 in
theorem w_t16 : ((((((((((((((((words1.drop 24).drop 24).drop 24).drop 24).drop 24).drop 24).drop 24).drop 24).drop 24).drop 24).drop 24).drop 24).drop 24).drop 24).drop 24).take 24).all (fun c => isCode c || c.before args0 about1) = true := by decide +kernel
set_option maxRecDepth 65536 in
theorem w_t17 : (((((((((((((((((words1.drop 24).drop 24).drop 24).drop 24).drop 24).drop 24).drop 24).drop 24).drop 24).drop 24).drop 24).drop 24).drop 24).drop 24).drop 24).drop 24).take 24).all (fun c => isCode c || c.before args0 about1) = true := by decide +kernel
set_option maxRecDepth 65536 in
theorem w_t18 : ((((((((((((((((((words1.drop 24).drop 24).drop 24).drop 24).drop 24).drop 24).drop 24).drop 24).drop 24).drop 24).drop 24).drop 24).drop 24).drop 24).drop 24).drop 24).drop 24).take 24).all (fun c => isCode c || c.before args0 about1) = true := by decide +kernel
set_option maxRecDepth 65536 in
theorem w_t19 : ((((((((((((((((((words1.drop 24).drop 24).drop 24).drop 24).drop 24).drop 24).drop 24).drop 24).drop 24).drop 24).drop 24).drop 24).drop 24).drop 24).drop 24).drop 24).drop 24).drop 24).all (fun c => isCode c || c.before args0 about1) = true := by decide +kernel
theorem w_tables : (allAtoms (Jvm.Cond.code x code maxLocals ret :: tables_1)).before args0 about1 = true := by
  rw [allAtoms_all]
  show words1.all (fun c => c.before args0 about1) = true
  refine all_split ?_ w_codes
  rw [← List.take_append_drop 24 words1, List.all_append, w_t1, ← List.take_append_drop 24 (words1.drop 24), List.all_append, w_t2, ← List.take_append_drop 24 ((words1.drop 24).drop 24), List.all_append, w_t3, ← List.take_append_drop 24 (((words1.drop 24).drop 24).drop 24), List.all_append, w_t4, ← List.take_append_drop 24 ((((words1.drop 24).drop 24).drop 24).drop 24), List.all_append, w_t5, ← List.take_append_drop 24 (((((words1.drop 24).drop 24).drop 24).drop 24).drop 24), List.all_append, w_t6, ← List.take_append_drop 24 ((((((words1.drop 24).drop 24).drop 24).drop 24).drop 24).drop 24), List.all_append, w_t7, ← List.take_append_drop 24 (((((((words1.drop 24).drop 24).drop 24).drop 24).drop 24).drop 24).drop 24), List.all_append, w_t8, ← List.take_append_drop 24 ((((((((words1.drop 24).drop 24).drop 24).drop 24).drop 24).drop 24).drop 24).drop 24), List.all_append, w_t9, ← List.take_append_drop 24 (((((((((words1.drop 24).drop 24).drop 24).drop 24).drop 24).drop 24).drop 24).drop 24).drop 24), List.all_append, w_t10, ← List.take_append_drop 24 ((((((((((words1.drop 24).drop 24).drop 24).drop 24).drop 24).drop 24).drop 24).drop 24).drop 24).drop 24), List.all_append, w_t11, ← List.take_append_drop 24 (((((((((((words1.drop 24).drop 24).drop 24).drop 24).drop 24).drop 24).drop 24).drop 24).drop 24).drop 24).drop 24), List.all_append, w_t12, ← List.take_append_drop 24 ((((((((((((words1.drop 24).drop 24).drop 24).drop 24).drop 24).drop 24).drop 24).drop 24).drop 24).drop 24).drop 24).drop 24), List.all_append, w_t13, ← List.take_append_drop 24 (((((((((((((words1.drop 24).drop 24).drop 24).drop 24).drop 24).drop 24).drop 24).drop 24).drop 24).drop 24).drop 24).drop 24).drop 24), List.all_append, w_t14, ← List.take_append_drop 24 ((((((((((((((words1.drop 24).drop 24).drop 24).drop 24).drop 24).drop 24).drop 24).drop 24).drop 24).drop 24).drop 24).drop 24).drop 24).drop 24), List.all_append, w_t15, ← List.take_append_drop 24 (((((((((((((((words1.drop 24).drop 24).drop 24).drop 24).drop 24).drop 24).drop 24).drop 24).drop 24).drop 24).drop 24).drop 24).drop 24).drop 24).drop 24), List.all_append, w_t16, ← List.take_append_drop 24 ((((((((((((((((words1.drop 24).drop 24).drop 24).drop 24).drop 24).drop 24).drop 24).drop 24).drop 24).drop 24).drop 24).drop 24).drop 24).drop 24).drop 24).drop 24), List.all_append, w_t17, ← List.take_append_drop 24 (((((((((((((((((words1.drop 24).drop 24).drop 24).drop 24).drop 24).drop 24).drop 24).drop 24).drop 24).drop 24).drop 24).drop 24).drop 24).drop 24).drop 24).drop 24).drop 24), List.all_append, w_t18, w_t19]
  rfl
set_option maxRecDepth 65536 in
theorem w_rest : rest_1_c.before args0 about1 = true := by decide +kernel
set_option maxRecDepth 65536 in
theorem w_case : (Jvm.Cond.and given_1 narrow_1).before args0 about1 = true := by decide +kernel
theorem w_applies : (headSpec (Jvm.Cond.code x code maxLocals ret :: tables_1) room_1).applies x e0.platform about1 = true :=
  (Spec.applies_iff w_frames).mpr ⟨w_running, w_runnable, w_alone, w_named, w_hears, w_ripe, w_room, w_tables⟩
theorem atStart : AtStart classFile x code maxLocals ret World_1 tables_1 room_1 Calls_1 rest_1 Pre_1 launch0 p0 e0 about1 theMethod args0 below0 :=
  ⟨lists_1, trivial, launch0.admits_env _ _ _, launch0.least_env, fairChoices_fair.cas, fairChoices_fair.clock, w_frames, w_args, w_heap, w_applies, ⟨⟨43, k43, 2, by decide +kernel, rfl, rfl, _, rfl, rfl⟩, trivial⟩, w_rest, w_case⟩
end start1
theorem witness_1 : WitnessClaimed_1 := ⟨start1.p0, start1.e0, start1.about1, start1.theMethod, start1.args0, start1.below0, start1.atStart⟩
end Jvm.Pilot.@@N@@
