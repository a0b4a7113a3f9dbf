import JvmDerived
import JvmDerived.Pilot.@@N@@Statement
import JvmDerived.Pilot.@@N@@Code
set_option linter.unusedVariables false
set_option linter.unusedSimpArgs false
namespace Jvm.Pilot.@@N@@
open Jvm Jvm.ClassFile Sem Op Lib Jvm.Free Jvm.Stand Jvm.LawKit Jvm.RoadKit Bundle Jvm.Free.Fl Jvm.Pilot.@@N@@.Jvm.D
theorem own_w {a0 : Array Value} {Z : State} (hw : ∀ d ∈ tables_1, d.before a0 Z = true) (i : Nat) {d : Jvm.Cond} (h : tables_1[i]? = some d) : d.before a0 Z = true := hw _ (List.mem_of_getElem? h)
abbrev own_S (p : Program) (e : Env) (below : List Frame) (T : State) (m : MethodId) (pc : Nat) (Ls : Array Slot) (st : List Value) (t : State) : Prop := Steps p.tables e below (T.setTop (mkF m pc Ls st)) t
abbrev oI (x : Int32) : Slot := .val (.int x)
abbrev oJ (x : Int64) : Slot := .val (.long x)
abbrev oD (x : UInt64) : Slot := .val (.double x)
abbrev oR (x : Addr) : Slot := .val (.ref x)
abbrev oU : Slot := .unset
abbrev oV : Slot := .second
section Re
variable {tb : Tables} {e : Env} {below : List Frame} {T target : State} {m : MethodId} {pc : Nat} {Ls : Array Slot} {rest : List Value}
theorem reI {x y : Int32} (h : x = y) (k : Steps tb e below (T.setTop (mkF m pc Ls (.int y :: rest))) target) : Steps tb e below (T.setTop (mkF m pc Ls (.int x :: rest))) target := by rw [h]; exact k
theorem reJ {x y : Int64} (h : x = y) (k : Steps tb e below (T.setTop (mkF m pc Ls (.long y :: rest))) target) : Steps tb e below (T.setTop (mkF m pc Ls (.long x :: rest))) target := by rw [h]; exact k
theorem reD {x y : UInt64} (h : x = y) (k : Steps tb e below (T.setTop (mkF m pc Ls (.double y :: rest))) target) : Steps tb e below (T.setTop (mkF m pc Ls (.double x :: rest))) target := by rw [h]; exact k
theorem re2I {v : Value} {x y : Int32} (h : x = y) (k : Steps tb e below (T.setTop (mkF m pc Ls (v :: .int y :: rest))) target) : Steps tb e below (T.setTop (mkF m pc Ls (v :: .int x :: rest))) target := by rw [h]; exact k
theorem own_nnl {e v : UInt64} (h : e = v) (hv : NoNaN64 v) : NoNaN64 e := h ▸ hv
end Re
section OwnFloat
open Jvm.FP
/-- finite, and worth z units of 2^-1074 -/
def own_At (a : UInt64) (z : Int) : Prop := ∃ s c q, Core.val64 a = .fin s c q ∧ Core.signed s (Core.inUnits c q (-1074)) = z
theorem own_at_fin {a : UInt64} {z : Int} (h : own_At a z) : Fin64 a := by
  obtain ⟨s, c, q, h, -⟩ := h
  exact fin64_core.mpr ⟨s, c, q, h⟩
theorem own_at_nn {a : UInt64} {z : Int} (h : own_At a z) : NoNaN64 a := (own_at_fin h).noNaN
theorem own_at_val {a : UInt64} {z : Int} (h : own_At a z) : Core.val64 a ≠ .nan ∧ Core.zval Core.b64 (Core.val64 a) = z := by
  obtain ⟨s, c, q, h, hz⟩ := h
  rw [h]
  refine ⟨nofun, ?_⟩
  show Core.signed s (Core.inUnits c q Core.b64.qmin) = z
  rw [Core.qmin_b64]; exact hz
theorem own_cmp {a b : UInt64} {x y : Int} (ha : own_At a x) (hb : own_At b y) : FP.dcmp a b = some (compare x y) := by
  have h1 := own_at_val ha; have h2 := own_at_val hb
  rw [← h1.2, ← h2.2]; exact Core.dcmp_zval h1.1 h2.1
theorem own_cmpV {a b : UInt64} {x y : Int} (ha : own_At a x) (hb : own_At b y) (o : CmpOp) : cmpValue (FP.dcmp a b) o = if x < y then -1 else if x = y then 0 else 1 := by
  rw [own_cmp ha hb]
  rcases Int.lt_trichotomy x y with h | h | h
  · rw [if_pos h, show compare x y = .lt from by simp [compare, compareOfLessAndEq, h]]; cases o <;> rfl
  · rw [if_neg (by omega), if_pos h, show compare x y = .eq from by subst h; simp [compare, compareOfLessAndEq]]; cases o <;> rfl
  · rw [if_neg (by omega), if_neg (by omega), show compare x y = .gt from by simp [compare, compareOfLessAndEq, show ¬ x < y by omega, show ¬ x = y by omega]]; cases o <;> rfl
theorem own_int {i : Int} {a : UInt64} (h : Core.DInt i a) : own_At a (i * (Core.one64 : Int)) := by
  have hz := Core.DInt_zval h
  unfold Core.DInt at h
  cases e : Core.val64 a with
  | nan => rw [e] at h; exact h.elim
  | inf s => rw [e] at h; exact h.elim
  | fin s c q =>
    refine ⟨s, c, q, e, ?_⟩
    rw [e] at hz
    rw [← hz]
    show _ = Core.signed s (Core.inUnits c q Core.b64.qmin)
    rw [Core.qmin_b64]
end OwnFloat
section OwnInt
end OwnInt
theorem own_D0 : FP.Core.DInt 0 (0 : UInt64) := by
  have h := FP.Core.i2d_int (0 : Int32)
  rw [show FP.Core.i2d 0 = 0 by decide +kernel] at h
  exact h
abbrev own_HW (Z : State) (a0 : Array Value) : Prop := ∀ d ∈ tables_1, d.before a0 Z = true
abbrev k1 : ByteArray := method_2_code
abbrev k2 : ByteArray := jdk_38_method_2_code
abbrev k3 : ByteArray := jdk_39_method_1_code
abbrev k6 : ByteArray := jdk_117_method_4_code
abbrev k7 : ByteArray := jdk_117_method_9_code
abbrev k9 : ByteArray := jdk_38_method_25_code
abbrev k10 : ByteArray := jdk_38_method_24_code
abbrev k11 : ByteArray := jdk_38_method_7_code
abbrev k12 : ByteArray := jdk_38_method_6_code
abbrev k13 : ByteArray := jdk_29_method_65_code
abbrev k14 : ByteArray := prog_29_method_1_code
abbrev k16 : ByteArray := jdk_31_method_11_code
abbrev k17 : ByteArray := jdk_38_method_9_code
abbrev k18 : ByteArray := jdk_38_method_20_code
abbrev k19 : ByteArray := jdk_31_method_17_code
abbrev k20 : ByteArray := jdk_41_method_11_code
abbrev k21 : ByteArray := jdk_38_method_18_code
abbrev k23 : ByteArray := jdk_38_method_1_code
abbrev k24 : ByteArray := jdk_38_method_55_code
abbrev k25 : ByteArray := jdk_49_method_1_code
abbrev k26 : ByteArray := jdk_49_method_2_code
abbrev k27 : ByteArray := jdk_49_method_3_code
abbrev k28 : ByteArray := jdk_49_method_6_code
abbrev k30 : ByteArray := jdk_117_method_8_code
abbrev k33 : ByteArray := jdk_56_method_3_code
abbrev k34 : ByteArray := jdk_38_method_16_code
abbrev k35 : ByteArray := jdk_65_method_119_code
abbrev k36 : ByteArray := jdk_65_method_120_code
abbrev k37 : ByteArray := jdk_29_method_69_code
abbrev k38 : ByteArray := jdk_40_method_47_code
abbrev k39 : ByteArray := jdk_56_method_4_code
abbrev k40 : ByteArray := jdk_31_method_10_code
abbrev k41 : ByteArray := jdk_45_method_1_code
abbrev k44 : ByteArray := jdk_44_method_2_code
abbrev k45 : ByteArray := prog_26_method_1_code
abbrev k47 : ByteArray := jdk_44_method_3_code
abbrev k48 : ByteArray := jdk_44_method_5_code
abbrev k49 : ByteArray := jdk_45_method_3_code
abbrev k50 : ByteArray := jdk_29_method_43_code
abbrev k51 : ByteArray := jdk_46_method_10_code
abbrev k52 : ByteArray := jdk_53_method_1_code
abbrev k53 : ByteArray := jdk_53_method_3_code
abbrev k54 : ByteArray := jdk_53_method_4_code
abbrev k55 : ByteArray := jdk_45_method_4_code
abbrev k56 : ByteArray := prog_26_method_14_code
abbrev k57 : ByteArray := prog_26_method_11_code
abbrev k58 : ByteArray := prog_26_method_15_code
abbrev kAL : String := "java/util/ArrayList"
abbrev kABL : String := "java/util/AbstractList"
abbrev kOB : String := "java/lang/Object"
abbrev kMO : String := "com/example/matchwright/matchwright/core/MatchObject"
abbrev kIV : String := "com/example/matchwright/matchwright/core/InstanceVectors"
abbrev kL12 : String := "java/util/ImmutableCollections$List12"
abbrev kLN : String := "java/util/ImmutableCollections$ListN"
abbrev kLIT : String := "java/util/ImmutableCollections$ListItr"
abbrev kITR : String := "java/util/ArrayList$Itr"
abbrev kOA : String := "[Ljava/lang/Object;"
abbrev kDB : String := "java/lang/Double"
section OwnCalls
variable {p : Program} {l : Launch} {e : Env} {R : Room} {s : State} {m : MethodId} {args : Array Value} {below : List Frame} {meth : Method} {c : Code} {T Z : State} {locs : List Loc} {cells slots : Nat} {a0 : Array Value} {h : Heap}
abbrev own_Mt (l : Launch) (Z : State) (h : Heap) (y : MethodName) (w : Jvm.Cond) (rm : Room) (as' : Array Value) (Q : Option Value → Heap → List Loc → Prop) : Prop := MetFree l y (head1 [w] rm) (fun a U => a = as' ∧ Z.Warmed39 U.vm ∧ U.heap = h) (fun _ _ _ _ _ => True) (fun _ U o U' => ∃ v L, o = .returned v ∧ Q v U'.heap L ∧ FrameEnd U o U' L rm.cells rm.slots)
abbrev own_Out (p : Program) (l : Launch) (e : Env) (R : Room) (s : State) (m : MethodId) (args : Array Value) (below : List Frame) (meth : Method) (c : Code) (T : State) (locs : List Loc) (cN sN : Nat) (Q : Option Value → Heap → List Loc → Prop) (g : JFrame) (k : Nat) (rest : List Value) : Prop :=
  ∃ (v : Option Value) (T' : State) (L : List Loc), Stand p l e R s m args below meth c T' (locs ++ L) cN sN ∧ Q v T'.heap L ∧ Steps p.tables e below (T.setTop g) (T'.setTop { g with pc := g.pc + k, stack := v.toList ++ rest })
theorem own_cI (X : Stand p l e R s m args below meth c T locs cells slots) (hx : p.tables.exec = Jvm.exec) (hZ : Z.Warmed39 s.vm) (hw : own_HW Z a0) {own C : String} {index count : Nat} {xi y : MethodName} {b : Addr} (hown : s.vm.findClass own = some m.cls) {bytes : ByteArray} {maxL : Nat} {ret : Option FieldType} {rm : Room} {W : Nat} {as' : Array Value} {Q : Option Value → Heap → List Loc → Prop} (hM : own_Mt l Z h y (.code y bytes maxL ret) rm as' Q) (hf : rm.frames + 1 ≤ R.frames) (hl : W + (maxL + 11) + rm.locals ≤ R.locals) (hq : xi.cls ≠ "java/lang/invoke/MethodHandle" ∧ xi.cls ≠ "java/lang/invoke/VarHandle") (i1 : Nat) (w1 : tables_1[i1]? = some (Jvm.Cond.methodLink own index xi)) (i2 : Nat) (w2 : tables_1[i2]? = some (Jvm.Cond.declares xi)) (i3 : Nat) (w3 : tables_1[i3]? = some (Jvm.Cond.interfaceMethod xi.cls xi.cls xi.name xi.desc)) (i4 : Nat) (w4 : tables_1[i4]? = some (Jvm.Cond.selects C xi y)) (i5 : Nat) (w5 : tables_1[i5]? = some (Jvm.Cond.instanceMethod y)) (i6 : Nat) (w6 : tables_1[i6]? = some (Jvm.Cond.publicMethod y)) (i7 : Nat) (w7 : tables_1[i7]? = some (Jvm.Cond.unhidden C xi.name xi.desc)) (i8 : Nat) (w8 : tables_1[i8]? = some (Jvm.Cond.castable C xi.cls)) (i9 : Nat) (w9 : tables_1[i9]? = some (Jvm.Cond.code y bytes maxL ret)) (i10 : Nat) (w10 : tables_1[i10]? = some (Jvm.Cond.initialized y.cls)) (eT : T.heap = h) (F : Exa Z h b C) {g : JFrame} (hg : g.method = m) (hsize : g.locals.size = c.maxLocals) {argsL rest : List Value} (hlen : ∀ sig, parseMethodDescriptor xi.desc = some sig → argsL.length = sig.parameters.length) (hstack : g.stack = argsL.reverse ++ .ref b :: rest) (hW : 2 * g.monitorRoom + (rest.map fun v => v.category).sum ≤ W) (hdg : decode c.code g.pc = .ok (.invokeinterface index count, 5)) (has : (.ref b :: argsL).toArray = as') {cN sN : Nat} (hc : cells + rm.cells = cN) (hcl : cN ≤ R.cells) (hs' : slots + rm.slots = sN) (hsl : sN ≤ R.slots) :
    own_Out p l e R s m args below meth c T locs cN sN Q g 5 rest := by
  obtain ⟨cB, kB, a1, a2, a3⟩ := isOf hZ eT F
  obtain ⟨v, vm1, ⟨T', L', k', n'⟩, -, X', ⟨L, hQ, l1, l2, l3⟩, st⟩ := X.interfaceBack hx hown (mvT hZ (own_w hw i1 w1)) (mvT hZ (own_w hw i2 w2)) (mvT hZ (own_w hw i3 w3) (by simp [Cond.onTables, Cond.keepsFace, Cond.keeps, Cond.steady, Cond.faceAtom, hq.1, hq.2])) (mvT hZ (own_w hw i4 w4)) (mvT hZ (own_w hw i5 w5)) (mvT hZ (own_w hw i6 w6)) (mvT hZ (own_w hw i7 w7)) (mvT hZ (own_w hw i8 w8)) hq (backOf (W := W) hM hZ (own_w hw i9 w9) (own_w hw i10 w10) hf hl) a1 a2 a3 hg hsize (Steps.refl _) hlen hstack hW hdg (fun _ _ => ⟨has, eT, Nat.le_trans (Nat.le_of_eq hc) hcl, Nat.le_trans (Nat.le_of_eq hs') hsl⟩)
  dsimp only [Pt.U, Pt.locs, Pt.cells, Pt.slots] at X' l1 l2 l3 st hQ
  subst l1 l2 l3 hc hs'
  exact ⟨v, T', L, X', hQ, st⟩
theorem own_cIW (X : Stand p l e R s m args below meth c T locs cells slots) (hx : p.tables.exec = Jvm.exec) (hZ : Z.Warmed39 s.vm) (hw : own_HW Z a0) {own C : String} {index count : Nat} {xi y : MethodName} {b : Addr} (hown : s.vm.findClass own = some m.cls) {bytes : ByteArray} {maxL : Nat} {ret : Option FieldType} {hs : List (Nat × Nat × Nat × Nat)} {rm : Room} {W : Nat} {as' : Array Value} {Q : Option Value → Heap → List Loc → Prop} (hM : own_Mt l Z h y (.codeWith y bytes maxL ret hs) rm as' Q) (hf : rm.frames + 1 ≤ R.frames) (hl : W + (maxL + 11) + rm.locals ≤ R.locals) (hq : xi.cls ≠ "java/lang/invoke/MethodHandle" ∧ xi.cls ≠ "java/lang/invoke/VarHandle") (i1 : Nat) (w1 : tables_1[i1]? = some (Jvm.Cond.methodLink own index xi)) (i2 : Nat) (w2 : tables_1[i2]? = some (Jvm.Cond.declares xi)) (i3 : Nat) (w3 : tables_1[i3]? = some (Jvm.Cond.interfaceMethod xi.cls xi.cls xi.name xi.desc)) (i4 : Nat) (w4 : tables_1[i4]? = some (Jvm.Cond.selects C xi y)) (i5 : Nat) (w5 : tables_1[i5]? = some (Jvm.Cond.instanceMethod y)) (i6 : Nat) (w6 : tables_1[i6]? = some (Jvm.Cond.publicMethod y)) (i7 : Nat) (w7 : tables_1[i7]? = some (Jvm.Cond.unhidden C xi.name xi.desc)) (i8 : Nat) (w8 : tables_1[i8]? = some (Jvm.Cond.castable C xi.cls)) (i9 : Nat) (w9 : tables_1[i9]? = some (Jvm.Cond.codeWith y bytes maxL ret hs)) (i10 : Nat) (w10 : tables_1[i10]? = some (Jvm.Cond.initialized y.cls)) (eT : T.heap = h) (F : Exa Z h b C) {g : JFrame} (hg : g.method = m) (hsize : g.locals.size = c.maxLocals) {argsL rest : List Value} (hlen : ∀ sig, parseMethodDescriptor xi.desc = some sig → argsL.length = sig.parameters.length) (hstack : g.stack = argsL.reverse ++ .ref b :: rest) (hW : 2 * g.monitorRoom + (rest.map fun v => v.category).sum ≤ W) (hdg : decode c.code g.pc = .ok (.invokeinterface index count, 5)) (has : (.ref b :: argsL).toArray = as') {cN sN : Nat} (hc : cells + rm.cells = cN) (hcl : cN ≤ R.cells) (hs' : slots + rm.slots = sN) (hsl : sN ≤ R.slots) :
    own_Out p l e R s m args below meth c T locs cN sN Q g 5 rest := by
  obtain ⟨cB, kB, a1, a2, a3⟩ := isOf hZ eT F
  obtain ⟨v, vm1, ⟨T', L', k', n'⟩, -, X', ⟨L, hQ, l1, l2, l3⟩, st⟩ := X.interfaceBack hx hown (mvT hZ (own_w hw i1 w1)) (mvT hZ (own_w hw i2 w2)) (mvT hZ (own_w hw i3 w3) (by simp [Cond.onTables, Cond.keepsFace, Cond.keeps, Cond.steady, Cond.faceAtom, hq.1, hq.2])) (mvT hZ (own_w hw i4 w4)) (mvT hZ (own_w hw i5 w5)) (mvT hZ (own_w hw i6 w6)) (mvT hZ (own_w hw i7 w7)) (mvT hZ (own_w hw i8 w8)) hq (backOfWith (W := W) hM hZ (own_w hw i9 w9) (own_w hw i10 w10) hf hl) a1 a2 a3 hg hsize (Steps.refl _) hlen hstack hW hdg (fun _ _ => ⟨has, eT, Nat.le_trans (Nat.le_of_eq hc) hcl, Nat.le_trans (Nat.le_of_eq hs') hsl⟩)
  dsimp only [Pt.U, Pt.locs, Pt.cells, Pt.slots] at X' l1 l2 l3 st hQ
  subst l1 l2 l3 hc hs'
  exact ⟨v, T', L, X', hQ, st⟩
theorem own_cV (X : Stand p l e R s m args below meth c T locs cells slots) (hx : p.tables.exec = Jvm.exec) (hZ : Z.Warmed39 s.vm) (hw : own_HW Z a0) {own C : String} {index : Nat} {y : MethodName} {b : Addr} (hown : s.vm.findClass own = some m.cls) {bytes : ByteArray} {maxL : Nat} {ret : Option FieldType} {rm : Room} {W : Nat} {as' : Array Value} {Q : Option Value → Heap → List Loc → Prop} (hM : own_Mt l Z h y (.code y bytes maxL ret) rm as' Q) (hf : rm.frames + 1 ≤ R.frames) (hl : W + (maxL + 11) + rm.locals ≤ R.locals) (hq : y.cls ≠ "java/lang/invoke/MethodHandle" ∧ y.cls ≠ "java/lang/invoke/VarHandle") (i1 : Nat) (w1 : tables_1[i1]? = some (Jvm.Cond.methodLink own index y)) (i2 : Nat) (w2 : tables_1[i2]? = some (Jvm.Cond.declares y)) (i3 : Nat) (w3 : tables_1[i3]? = some (Jvm.Cond.selects C y y)) (i4 : Nat) (w4 : tables_1[i4]? = some (Jvm.Cond.instanceMethod y)) (i5 : Nat) (w5 : tables_1[i5]? = some (Jvm.Cond.code y bytes maxL ret)) (i6 : Nat) (w6 : tables_1[i6]? = some (Jvm.Cond.initialized y.cls)) (eT : T.heap = h) (F : Exa Z h b C) {g : JFrame} (hg : g.method = m) (hsize : g.locals.size = c.maxLocals) {argsL rest : List Value} (hlen : ∀ sig, parseMethodDescriptor y.desc = some sig → argsL.length = sig.parameters.length) (hstack : g.stack = argsL.reverse ++ .ref b :: rest) (hW : 2 * g.monitorRoom + (rest.map fun v => v.category).sum ≤ W) (hdg : decode c.code g.pc = .ok (.invokevirtual index, 3)) (has : (.ref b :: argsL).toArray = as') {cN sN : Nat} (hc : cells + rm.cells = cN) (hcl : cN ≤ R.cells) (hs' : slots + rm.slots = sN) (hsl : sN ≤ R.slots) :
    own_Out p l e R s m args below meth c T locs cN sN Q g 3 rest := by
  obtain ⟨cB, kB, a1, a2, a3⟩ := isOf hZ eT F
  obtain ⟨v, vm1, ⟨T', L', k', n'⟩, -, X', ⟨L, hQ, l1, l2, l3⟩, st⟩ := X.virtualBack hx hown (mvT hZ (own_w hw i1 w1)) (mvT hZ (own_w hw i2 w2)) (notFace_of_selects (args := #[]) (mvT hZ (own_w hw i3 w3))) (mvT hZ (own_w hw i3 w3)) (mvT hZ (own_w hw i4 w4)) hq (backOf (W := W) hM hZ (own_w hw i5 w5) (own_w hw i6 w6) hf hl) a1 a3 hg hsize (Steps.refl _) hlen hstack hW hdg (fun _ _ => ⟨has, eT, Nat.le_trans (Nat.le_of_eq hc) hcl, Nat.le_trans (Nat.le_of_eq hs') hsl⟩)
  dsimp only [Pt.U, Pt.locs, Pt.cells, Pt.slots] at X' l1 l2 l3 st hQ
  subst l1 l2 l3 hc hs'
  exact ⟨v, T', L, X', hQ, st⟩
theorem own_cP (X : Stand p l e R s m args below meth c T locs cells slots) (hx : p.tables.exec = Jvm.exec) (hZ : Z.Warmed39 s.vm) (hw : own_HW Z a0) {own C : String} {index : Nat} {y : MethodName} {b : Addr} (hown : s.vm.findClass own = some m.cls) {bytes : ByteArray} {maxL : Nat} {ret : Option FieldType} {rm : Room} {W : Nat} {as' : Array Value} {Q : Option Value → Heap → List Loc → Prop} (hM : own_Mt l Z h y (.code y bytes maxL ret) rm as' Q) (hf : rm.frames + 1 ≤ R.frames) (hl : W + (maxL + 11) + rm.locals ≤ R.locals) (hq : y.cls ≠ "java/lang/invoke/MethodHandle" ∧ y.cls ≠ "java/lang/invoke/VarHandle") (i1 : Nat) (w1 : tables_1[i1]? = some (Jvm.Cond.methodLink own index y)) (i2 : Nat) (w2 : tables_1[i2]? = some (Jvm.Cond.instanceMethod y)) (i3 : Nat) (w3 : tables_1[i3]? = some (Jvm.Cond.privateMethod y)) (i4 : Nat) (w4 : tables_1[i4]? = some (Jvm.Cond.code y bytes maxL ret)) (i5 : Nat) (w5 : tables_1[i5]? = some (Jvm.Cond.initialized y.cls)) (hsel : (Jvm.Cond.selects y.cls y y).before a0 Z = true) (eT : T.heap = h) (F : Exa Z h b C) {g : JFrame} (hg : g.method = m) (hsize : g.locals.size = c.maxLocals) {argsL rest : List Value} (hlen : ∀ sig, parseMethodDescriptor y.desc = some sig → argsL.length = sig.parameters.length) (hstack : g.stack = argsL.reverse ++ .ref b :: rest) (hW : 2 * g.monitorRoom + (rest.map fun v => v.category).sum ≤ W) (hdg : decode c.code g.pc = .ok (.invokevirtual index, 3)) (has : (.ref b :: argsL).toArray = as') {cN sN : Nat} (hc : cells + rm.cells = cN) (hcl : cN ≤ R.cells) (hs' : slots + rm.slots = sN) (hsl : sN ≤ R.slots) :
    own_Out p l e R s m args below meth c T locs cN sN Q g 3 rest := by
  obtain ⟨cq, q1, q2⟩ := F.cell
  obtain ⟨v, vm1, ⟨T', L', k', n'⟩, -, X', ⟨L, hQ, l1, l2, l3⟩, st⟩ := X.privateBack hx hown (mvT hZ (own_w hw i1 w1)) (mvT hZ (own_w hw i2 w2)) (mvT hZ hsel) (Cond.privateMethod_at (mvP hZ (own_w hw i3 w3) (args := #[]))) (mvT hZ (own_w hw i4 w4)) hq (backOf (W := W) hM hZ (own_w hw i4 w4) (own_w hw i5 w5) hf hl) hg hsize (Steps.refl _) (by rw [eT]; exact q1) q2 hlen hstack hW hdg (fun _ _ => ⟨has, eT, Nat.le_trans (Nat.le_of_eq hc) hcl, Nat.le_trans (Nat.le_of_eq hs') hsl⟩)
  dsimp only [Pt.U, Pt.locs, Pt.cells, Pt.slots] at X' l1 l2 l3 st hQ
  subst l1 l2 l3 hc hs'
  exact ⟨v, T', L, X', hQ, st⟩
theorem own_cS (X : Stand p l e R s m args below meth c T locs cells slots) (hx : p.tables.exec = Jvm.exec) (hZ : Z.Warmed39 s.vm) (hw : own_HW Z a0) {own : String} {index : Nat} {y : MethodName} (hown : s.vm.findClass own = some m.cls) {bytes : ByteArray} {maxL : Nat} {ret : Option FieldType} {rm : Room} {W : Nat} {as' : Array Value} {Q : Option Value → Heap → List Loc → Prop} (hM : own_Mt l Z h y (.code y bytes maxL ret) rm as' Q) (hf : rm.frames + 1 ≤ R.frames) (hl : W + (maxL + 11) + rm.locals ≤ R.locals) (hq : y.cls ≠ "java/lang/invoke/MethodHandle" ∧ y.cls ≠ "java/lang/invoke/VarHandle") (i1 : Nat) (w1 : tables_1[i1]? = some (Jvm.Cond.methodLink own index y)) (i2 : Nat) (w2 : tables_1[i2]? = some (Jvm.Cond.static y)) (i3 : Nat) (w3 : tables_1[i3]? = some (Jvm.Cond.initialized y.cls)) (i4 : Nat) (w4 : tables_1[i4]? = some (Jvm.Cond.code y bytes maxL ret)) (eT : T.heap = h) {g : JFrame} (hg : g.method = m) (hsize : g.locals.size = c.maxLocals) {argsL rest : List Value} (hlen : ∀ sig, parseMethodDescriptor y.desc = some sig → argsL.length = sig.parameters.length) (hstack : g.stack = argsL.reverse ++ rest) (hW : 2 * g.monitorRoom + (rest.map fun v => v.category).sum ≤ W) (hdg : decode c.code g.pc = .ok (.invokestatic index, 3)) (has : argsL.toArray = as') {cN sN : Nat} (hc : cells + rm.cells = cN) (hcl : cN ≤ R.cells) (hs' : slots + rm.slots = sN) (hsl : sN ≤ R.slots) :
    own_Out p l e R s m args below meth c T locs cN sN Q g 3 rest := by
  obtain ⟨v, vm1, ⟨T', L', k', n'⟩, -, X', ⟨L, hQ, l1, l2, l3⟩, st⟩ := Jvm.LawKit.callS X hx hown (mvT hZ (own_w hw i1 w1)) (mvT hZ (own_w hw i2 w2)) (mvT hZ (own_w hw i3 w3)) (mvT hZ (own_w hw i4 w4)) hq (backOf (W := W) hM hZ (own_w hw i4 w4) (own_w hw i3 w3) hf hl) hg hsize hlen hstack hW hdg (fun _ _ => ⟨has, eT, Nat.le_trans (Nat.le_of_eq hc) hcl, Nat.le_trans (Nat.le_of_eq hs') hsl⟩)
  dsimp only [Pt.U, Pt.locs, Pt.cells, Pt.slots] at X' l1 l2 l3 st hQ
  subst l1 l2 l3 hc hs'
  exact ⟨v, T', L, X', hQ, st _ (Steps.refl _)⟩
theorem own_cC (X : Stand p l e R s m args below meth c T locs cells slots) (hx : p.tables.exec = Jvm.exec) (hZ : Z.Warmed39 s.vm) (hw : own_HW Z a0) {own : String} {index : Nat} {y : MethodName} {b : Addr} (hown : s.vm.findClass own = some m.cls) {bytes : ByteArray} {maxL : Nat} {rm : Room} {W : Nat} {as' : Array Value} {Q : Option Value → Heap → List Loc → Prop} (hM : own_Mt l Z h y (.code y bytes maxL none) rm as' Q) (hf : rm.frames + 1 ≤ R.frames) (hl : W + (maxL + 11) + rm.locals ≤ R.locals) (hq : y.cls ≠ "java/lang/invoke/MethodHandle" ∧ y.cls ≠ "java/lang/invoke/VarHandle") (hi : y.name = "<init>") (i1 : Nat) (w1 : tables_1[i1]? = some (Jvm.Cond.methodLink own index y)) (i2 : Nat) (w2 : tables_1[i2]? = some (Jvm.Cond.instanceMethod y)) (i3 : Nat) (w3 : tables_1[i3]? = some (Jvm.Cond.code y bytes maxL none)) (i4 : Nat) (w4 : tables_1[i4]? = some (Jvm.Cond.initialized y.cls)) (eT : T.heap = h) {g : JFrame} (hg : g.method = m) (hsize : g.locals.size = c.maxLocals) {argsL rest : List Value} (hlen : ∀ sig, parseMethodDescriptor y.desc = some sig → argsL.length = sig.parameters.length) (hstack : g.stack = argsL.reverse ++ .ref b :: rest) (hW : 2 * g.monitorRoom + (rest.map fun v => v.category).sum ≤ W) (hdg : decode c.code g.pc = .ok (.invokespecial index, 3)) (has : (.ref b :: argsL).toArray = as') {cN sN : Nat} (hc : cells + rm.cells = cN) (hcl : cN ≤ R.cells) (hs' : slots + rm.slots = sN) (hsl : sN ≤ R.slots) :
    own_Out p l e R s m args below meth c T locs cN sN Q g 3 rest := by
  obtain ⟨v, vm1, ⟨T', L', k', n'⟩, -, X', ⟨L, hQ, l1, l2, l3⟩, st⟩ := X.specialBack hx hi hown (mvT hZ (own_w hw i1 w1)) (mvT hZ (own_w hw i2 w2)) (mvT hZ (own_w hw i3 w3)) hq (backOf (W := W) hM hZ (own_w hw i3 w3) (own_w hw i4 w4) hf hl) hg hsize (Steps.refl _) hlen hstack hW hdg (fun _ _ => ⟨has, eT, Nat.le_trans (Nat.le_of_eq hc) hcl, Nat.le_trans (Nat.le_of_eq hs') hsl⟩)
  dsimp only [Pt.U, Pt.locs, Pt.cells, Pt.slots] at X' l1 l2 l3 st hQ
  subst l1 l2 l3 hc hs'
  exact ⟨v, T', L, X', hQ, st⟩
abbrev own_MtW (l : Launch) (Z : State) (h : Heap) (y : MethodName) (w : Jvm.Cond) (rm : Room) (as' : Array Value) (Q : Option Value → Heap → List Loc → Prop) : Prop := MetFree l y (head1 [w] rm) (fun a U => a = as' ∧ Z.Warmed39 U.vm ∧ U.heap = h) (fun _ _ _ _ _ => True) (fun _ U o U' => ∃ v L, o = .returned v ∧ Q v U'.heap L ∧ ReturnedEndW U o U' L rm.cells rm.slots)
theorem own_cCS (X : Stand p l e R s m args below meth c T locs cells slots) (hx : p.tables.exec = Jvm.exec) (hZ : Z.Warmed39 s.vm) (hw : own_HW Z a0) {own : String} {index : Nat} {y : MethodName} {b : Addr} (hown : s.vm.findClass own = some m.cls) {bytes : ByteArray} {maxL : Nat} {rm : Room} {W : Nat} {as' : Array Value} {Q : Option Value → Heap → List Loc → Prop} (hM : own_MtW l Z h y (.code y bytes maxL none) rm as' Q) (hf : rm.frames + 1 ≤ R.frames) (hl : W + (maxL + 11) + rm.locals ≤ R.locals) (hq : y.cls ≠ "java/lang/invoke/MethodHandle" ∧ y.cls ≠ "java/lang/invoke/VarHandle") (hi : y.name = "<init>") (i1 : Nat) (w1 : tables_1[i1]? = some (Jvm.Cond.methodLink own index y)) (i2 : Nat) (w2 : tables_1[i2]? = some (Jvm.Cond.instanceMethod y)) (i3 : Nat) (w3 : tables_1[i3]? = some (Jvm.Cond.code y bytes maxL none)) (i4 : Nat) (w4 : tables_1[i4]? = some (Jvm.Cond.initialized y.cls)) (eT : T.heap = h) {g : JFrame} (hg : g.method = m) (hsize : g.locals.size = c.maxLocals) {argsL rest : List Value} (hlen : ∀ sig, parseMethodDescriptor y.desc = some sig → argsL.length = sig.parameters.length) (hstack : g.stack = argsL.reverse ++ .ref b :: rest) (hW : 2 * g.monitorRoom + (rest.map fun v => v.category).sum ≤ W) (hdg : decode c.code g.pc = .ok (.invokespecial index, 3)) (has : (.ref b :: argsL).toArray = as') {cN sN : Nat} (hc : cells + rm.cells = cN) (hcl : cN ≤ R.cells) (hs' : slots + rm.slots = sN) (hsl : sN ≤ R.slots) :
    ∃ (v : Option Value) (T' : State) (L : List Loc), Stand p l e R (s.setVm T'.vm) m args below meth c T' (locs ++ L) cN sN ∧ s.Since T'.vm T'.heap.size ∧ T.heap.size ≤ T'.heap.size ∧ Q v T'.heap L ∧ Steps p.tables e below (T.setTop g) (T'.setTop { g with pc := g.pc + 3, stack := v.toList ++ rest }) := by
  obtain ⟨v, vm1, ⟨T', L', k', n'⟩, -, X', hS, hg', ⟨L, hQ, l1, l2, l3⟩, st⟩ := X.specialBackS hx hi hown (mvT hZ (own_w hw i1 w1)) (mvT hZ (own_w hw i2 w2)) (mvT hZ (own_w hw i3 w3)) hq (backOfS (W := W) hM hZ (own_w hw i3 w3) (own_w hw i4 w4) hf hl) hg hsize (Steps.refl _) hlen hstack hW hdg (fun _ _ => ⟨has, eT, Nat.le_trans (Nat.le_of_eq hc) hcl, Nat.le_trans (Nat.le_of_eq hs') hsl⟩)
  dsimp only [Pt.U, Pt.locs, Pt.cells, Pt.slots] at X' hS hg' l1 l2 l3 st hQ
  subst l1 l2 l3 hc hs'
  exact ⟨v, T', L, X', hS, hg', hQ, st⟩
end OwnCalls
theorem d4_0 : decode jdk_22_method_1_code 0 = .ok (.aload_n 0, 1) := by decide +kernel
theorem d4_1 : decode jdk_22_method_1_code 1 = .ok (.invokespecial 1, 3) := by decide +kernel
theorem d4_4 : decode jdk_22_method_1_code 4 = .ok (.return_, 1) := by decide +kernel
theorem pn0 : plainName "java/util/AbstractCollection" = true := by first | (simp [plainName, overriddenIn]; done) | decide +kernel
theorem efm4 (m : MethodId) (r0 : Addr) : entryFrame m #[(.ref r0)] 1 = mkF m 0 #[oR r0] [] := by first | (simp [entryFrame, mkF, argsToLocals, Value.category]; done) | rfl
def Qm4 (Z : State) (r0 : Addr) (h0 : Heap) (n0 : Nat) (v : Option Value) (h : Heap) (L : List Loc) : Prop := v = none ∧ Fr n0 L ∧ (h = h0)
set_option maxRecDepth 65536 in
set_option maxHeartbeats 40000000 in
theorem rmm4 (l : Launch) (Z : State) (a0 : Array Value) (hw : own_HW Z a0) (ws : List Jvm.Cond) (r0 : Addr) (h0 : Heap) (n0 : Nat) (Z0 : n0 ≤ h0.size)  :
    MetFree l (⟨"java/util/AbstractCollection", "<init>", "()V"⟩ : MethodName) (head1 (Jvm.Cond.code (⟨"java/util/AbstractCollection", "<init>", "()V"⟩ : MethodName) jdk_22_method_1_code 1 none :: ws) ({ frames := 1, cells := 0, slots := 0, locals := 12 } : Room)) (fun a U => a = #[(.ref r0)] ∧ Z.Warmed39 U.vm ∧ U.heap = h0) (fun _ _ _ _ _ => True) (fun _ U o U' => ∃ v L, o = .returned v ∧ Qm4 Z r0 h0 n0 v U'.heap L ∧ FrameEnd U o U' L ({ frames := 1, cells := 0, slots := 0, locals := 12 } : Room).cells ({ frames := 1, cells := 0, slots := 0, locals := 12 } : Room).slots) := by
  refine MetFree.of_bodySF (plainFor_of_name pn0) hisR ?_
  intro p e s m args below meth c s₁ Bd hml0 hP hK
  obtain ⟨rfl, hZ, hh⟩ := hP
  have hx := Bd.exec
  have hby := Bd.bytes
  have hml : c.maxLocals = 1 := hml0
  have hown : s.vm.findClass "java/util/AbstractCollection" = some m.cls := findClass_of_methodNamed Bd.named
  have hnm := (name_of_methodNamed Bd.named Bd.method).1
  have X0 : Stand p l e ({ frames := 1, cells := 0, slots := 0, locals := 12 } : Room) s m #[(.ref r0)] below meth c s₁ [] 0 0 := Stand.of_body Bd
  have e0 : s₁.heap = h0 := by rw [← hh, Bd.state]; rfl
  have N0 := Fr.nil n0
  have pre0 : ∀ t, Steps p.tables e below (s₁.setTop (mkF m 0 #[oR r0] [])) t → Steps p.tables e below (s₁.setTop (entryFrame m #[(.ref r0)] 1)) t := fun t k => castTop (efm4 m r0) k
  obtain ⟨T101, X101, e101, st101⟩ := initO X0 hx hZ hown (own_w hw 22 rfl) (own_w hw 23 rfl) (own_w hw 24 rfl) e0 (g := (mkF m 1 #[oR r0] [(.ref r0)])) rfl (by rw [hml]; rfl) rfl (hb hby d4_1) (by decide) (W := 0) (by show 2 * 0 + _ ≤ _; exact Nat.le_of_eq rfl) (by decide)
  obtain ⟨fs, hr, hrun, hended, hW, hsame⟩ := X101.leave (v := none) (fun _ => rfl)
  refine ⟨_, _, pre0 _ ?_, hrun, hended, _, _, rfl, ?_, ⟨_, rfl⟩, hW, hsame.mono (by decide) (by decide)⟩
  · show own_S p e below s₁ m 0 #[oR r0] [] _
    refine XS.aloadN X0.here hx rfl (hb hby d4_0) rfl rfl ?_
    show own_S p e below s₁ m 1 _ [(.ref r0)] _
    refine st101 _ ?_
    show own_S p e below T101 m 4 _ [] _
    exact X101.returnOut hx Bd.returns (hb hby d4_4) hr
  · show Qm4 Z r0 h0 n0 _ T101.heap _
    rw [e101]
    exact ⟨rfl, N0, rfl⟩
theorem pd0 : parseMethodDescriptor "()V" = some ⟨[], none⟩ := by decide +kernel
theorem sn0 {Z : State} {a0 : Array Value} (hw : own_HW Z a0) : Jvm.RoadKit.slotOf Z kAL "elementData" kOA ≠ Jvm.RoadKit.slotOf Z kABL "modCount" "I" := slot_ne (Or.inl (own_w hw 29 rfl)) (Or.inl (own_w hw 26 rfl)) (by decide) (t := (.array (.object kOB))) (t' := .int) (by decide) (by decide)
theorem sn1 {Z : State} {a0 : Array Value} (hw : own_HW Z a0) : Jvm.RoadKit.slotOf Z kAL "size" "I" ≠ Jvm.RoadKit.slotOf Z kABL "modCount" "I" := slot_ne (Or.inl (own_w hw 61 rfl)) (Or.inl (own_w hw 26 rfl)) (by decide) (t := .int) (t' := .int) (by decide) (by decide)
theorem d3_0 : decode k3 0 = .ok (.aload_n 0, 1) := by decide +kernel
theorem d3_1 : decode k3 1 = .ok (.invokespecial 1, 3) := by decide +kernel
theorem d3_4 : decode k3 4 = .ok (.aload_n 0, 1) := by decide +kernel
theorem d3_5 : decode k3 5 = .ok (.iconst 0, 1) := by decide +kernel
theorem d3_6 : decode k3 6 = .ok (.putfield 7, 3) := by decide +kernel
theorem d3_9 : decode k3 9 = .ok (.return_, 1) := by decide +kernel
theorem pn1 : plainName kABL = true := by first | (simp [plainName, overriddenIn]; done) | decide +kernel
theorem efm3 (m : MethodId) (r0 : Addr) : entryFrame m #[(.ref r0)] 1 = mkF m 0 #[oR r0] [] := by first | (simp [entryFrame, mkF, argsToLocals, Value.category]; done) | rfl
def Qm3 (Z : State) (r0 : Addr) (w0 : Value) (w1 : Value) (w2 : Value) (h0 : Heap) (n0 : Nat) (v : Option Value) (h : Heap) (L : List Loc) : Prop := v = none ∧ Fr n0 L ∧ (Keep h0 h [r0]) ∧ (Fld Z h r0 kAL "elementData" kOA w0) ∧ (Fld Z h r0 kAL "size" "I" w1) ∧ (Fld Z h r0 kABL "modCount" "I" (.int 0))
set_option maxRecDepth 65536 in
set_option maxHeartbeats 40000000 in
theorem rmm3 (l : Launch) (Z : State) (a0 : Array Value) (hw : own_HW Z a0) (ws : List Jvm.Cond) (r0 : Addr) (w0 : Value) (w1 : Value) (w2 : Value) (h0 : Heap) (n0 : Nat) (Z0 : n0 ≤ h0.size) (E_r0 : Exa Z h0 r0 kAL) (g_r0 : n0 ≤ r0) (F_elementData_r0 : Fld Z h0 r0 kAL "elementData" kOA w0) (F_size_r0 : Fld Z h0 r0 kAL "size" "I" w1) (F_modCount_r0 : Fld Z h0 r0 kABL "modCount" "I" w2) :
    MetFree l (⟨kABL, "<init>", "()V"⟩ : MethodName) (head1 (Jvm.Cond.code (⟨kABL, "<init>", "()V"⟩ : MethodName) jdk_39_method_1_code 1 none :: ws) ({ frames := 2, cells := 0, slots := 0, locals := 24 } : Room)) (fun a U => a = #[(.ref r0)] ∧ Z.Warmed39 U.vm ∧ U.heap = h0) (fun _ _ _ _ _ => True) (fun _ U o U' => ∃ v L, o = .returned v ∧ Qm3 Z r0 w0 w1 w2 h0 n0 v U'.heap L ∧ FrameEnd U o U' L ({ frames := 2, cells := 0, slots := 0, locals := 24 } : Room).cells ({ frames := 2, cells := 0, slots := 0, locals := 24 } : Room).slots) := by
  refine MetFree.of_bodySF (plainFor_of_name pn1) hisR ?_
  intro p e s m args below meth c s₁ Bd hml0 hP hK
  obtain ⟨rfl, hZ, hh⟩ := hP
  have hx := Bd.exec
  have hby := Bd.bytes
  have hml : c.maxLocals = 1 := hml0
  have hown : s.vm.findClass kABL = some m.cls := findClass_of_methodNamed Bd.named
  have hnm := (name_of_methodNamed Bd.named Bd.method).1
  have X0 : Stand p l e ({ frames := 2, cells := 0, slots := 0, locals := 24 } : Room) s m #[(.ref r0)] below meth c s₁ [] 0 0 := Stand.of_body Bd
  have e0 : s₁.heap = h0 := by rw [← hh, Bd.state]; rfl
  have N0 := Fr.nil n0
  have pre0 : ∀ t, Steps p.tables e below (s₁.setTop (mkF m 0 #[oR r0] [])) t → Steps p.tables e below (s₁.setTop (entryFrame m #[(.ref r0)] 1)) t := fun t k => castTop (efm3 m r0) k
  obtain ⟨_, T101, L101, X101, hQ101, st101⟩ := own_cC X0 hx hZ hw hown (b := r0) (W := 0) (rmm4 l Z a0 hw [] r0 h0 n0 Z0 ) (by decide) (by decide) (by decide) rfl 16 rfl 17 rfl 21 rfl 20 rfl e0 (g := (mkF m 1 #[oR r0] [(.ref r0)])) rfl (by rw [hml]; rfl) (argsL := []) (rest := []) (lenOf pd0 rfl) rfl (Nat.le_of_eq rfl) (hb hby d3_1) rfl (cN := 0) rfl (by decide) (sN := 0) rfl (by decide)
  obtain ⟨rfl, Nq101, P101_0⟩ := hQ101
  have N101 := Fr.app N0 Nq101
  obtain ⟨T102, h102, X102, e102, W102, st102⟩ := putF X101 hx hZ hown (host := "") (Or.inl (own_w hw 25 rfl)) Via.refl P101_0 F_modCount_r0 E_r0 (Or.inl (own_w hw 26 rfl)) (own_w hw 5 rfl) (ty := .int) (by decide) rfl rfl (g := (mkF m 6 #[oR r0] [(.int 0), (.ref r0)])) rfl rfl (hb hby d3_6)
  have Fw102 := F_modCount_r0.same W102
  have N102 := Fr.snoc X102 N101 g_r0
  have ZZ103 : n0 ≤ h102.size := Nat.le_trans Z0 (Nat.le_of_eq W102.size.symm)
  have KK104 : Keep h0 h102 [r0] := (Keep.refl h0 [r0]).wr W102 (Or.inl (List.mem_of_getElem? (i := 0) rfl))
  obtain ⟨fs, hr, hrun, hended, hW, hsame⟩ := X102.leave (v := none) (fun _ => rfl)
  refine ⟨_, _, pre0 _ ?_, hrun, hended, _, _, rfl, ?_, ⟨_, rfl⟩, hW, hsame.mono (by decide) (by decide)⟩
  · show own_S p e below s₁ m 0 #[oR r0] [] _
    refine XS.aloadN X0.here hx rfl (hb hby d3_0) rfl rfl ?_
    show own_S p e below s₁ m 1 _ [(.ref r0)] _
    refine st101.trans ?_
    show own_S p e below T101 m 4 _ [] _
    refine XS.aloadN X101.here hx rfl (hb hby d3_4) rfl rfl ?_
    refine XS.iconst X101.here hx rfl (hb hby d3_5) ?_
    show own_S p e below T101 m 6 _ [(.int 0), (.ref r0)] _
    refine st102 _ ?_
    show own_S p e below T102 m 9 _ [] _
    exact X102.returnOut hx Bd.returns (hb hby d3_9) hr
  · show Qm3 Z r0 w0 w1 w2 h0 n0 _ T102.heap _
    rw [e102]
    exact ⟨rfl, N102, KK104, (F_elementData_r0.other W102 (Or.inr (sn0 hw))), (F_size_r0.other W102 (Or.inr (sn1 hw))), Fw102⟩
theorem sn2 {Z : State} {a0 : Array Value} (hw : own_HW Z a0) : Jvm.RoadKit.slotOf Z kAL "size" "I" ≠ Jvm.RoadKit.slotOf Z kAL "elementData" kOA := slot_ne (Or.inl (own_w hw 61 rfl)) (Or.inl (own_w hw 29 rfl)) (by decide) (t := .int) (t' := (.array (.object kOB))) (by decide) (by decide)
theorem d2_0 : decode k2 0 = .ok (.aload_n 0, 1) := by decide +kernel
theorem d2_1 : decode k2 1 = .ok (.invokespecial 1, 3) := by decide +kernel
theorem d2_4 : decode k2 4 = .ok (.aload_n 0, 1) := by decide +kernel
theorem d2_5 : decode k2 5 = .ok (.getstatic 39, 3) := by decide +kernel
theorem d2_8 : decode k2 8 = .ok (.putfield 9, 3) := by decide +kernel
theorem d2_11 : decode k2 11 = .ok (.return_, 1) := by decide +kernel
theorem pn2 : plainName kAL = true := by first | (simp [plainName, overriddenIn]; done) | decide +kernel
theorem efm2 (m : MethodId) (r0 : Addr) : entryFrame m #[(.ref r0)] 1 = mkF m 0 #[oR r0] [] := by first | (simp [entryFrame, mkF, argsToLocals, Value.category]; done) | rfl
def Qm2 (Z : State) (r0 : Addr) (w0 : Value) (w1 : Value) (w2 : Value) (de : Addr) (h0 : Heap) (n0 : Nat) (v : Option Value) (h : Heap) (L : List Loc) : Prop := v = none ∧ Fr n0 L ∧ (Keep h0 h [r0]) ∧ (Fld Z h r0 kAL "elementData" kOA (.ref de)) ∧ (Fld Z h r0 kAL "size" "I" w1) ∧ (Fld Z h r0 kABL "modCount" "I" (.int 0))
set_option maxRecDepth 65536 in
set_option maxHeartbeats 40000000 in
theorem rmm2 (l : Launch) (Z : State) (a0 : Array Value) (hw : own_HW Z a0) (ws : List Jvm.Cond) (r0 : Addr) (w0 : Value) (w1 : Value) (w2 : Value) (de : Addr) (h0 : Heap) (n0 : Nat) (Z0 : n0 ≤ h0.size) (E_r0 : Exa Z h0 r0 kAL) (g_r0 : n0 ≤ r0) (F_elementData_r0 : Fld Z h0 r0 kAL "elementData" kOA w0) (F_size_r0 : Fld Z h0 r0 kAL "size" "I" w1) (F_modCount_r0 : Fld Z h0 r0 kABL "modCount" "I" w2) (hOld : Old Z n0 h0) (S_DEFAULTCAPACITY_EMPTY_ELEMENTDATA : Sta Z Z.heap kAL "DEFAULTCAPACITY_EMPTY_ELEMENTDATA" kOA (.ref de)) :
    MetFree l (⟨kAL, "<init>", "()V"⟩ : MethodName) (head1 (Jvm.Cond.code (⟨kAL, "<init>", "()V"⟩ : MethodName) jdk_38_method_2_code 1 none :: ws) ({ frames := 3, cells := 0, slots := 0, locals := 36 } : Room)) (fun a U => a = #[(.ref r0)] ∧ Z.Warmed39 U.vm ∧ U.heap = h0) (fun _ _ _ _ _ => True) (fun _ U o U' => ∃ v L, o = .returned v ∧ Qm2 Z r0 w0 w1 w2 de h0 n0 v U'.heap L ∧ FrameEnd U o U' L ({ frames := 3, cells := 0, slots := 0, locals := 36 } : Room).cells ({ frames := 3, cells := 0, slots := 0, locals := 36 } : Room).slots) := by
  refine MetFree.of_bodySF (plainFor_of_name pn2) hisR ?_
  intro p e s m args below meth c s₁ Bd hml0 hP hK
  obtain ⟨rfl, hZ, hh⟩ := hP
  have hx := Bd.exec
  have hby := Bd.bytes
  have hml : c.maxLocals = 1 := hml0
  have hown : s.vm.findClass kAL = some m.cls := findClass_of_methodNamed Bd.named
  have hnm := (name_of_methodNamed Bd.named Bd.method).1
  have X0 : Stand p l e ({ frames := 3, cells := 0, slots := 0, locals := 36 } : Room) s m #[(.ref r0)] below meth c s₁ [] 0 0 := Stand.of_body Bd
  have e0 : s₁.heap = h0 := by rw [← hh, Bd.state]; rfl
  have N0 := Fr.nil n0
  have pre0 : ∀ t, Steps p.tables e below (s₁.setTop (mkF m 0 #[oR r0] [])) t → Steps p.tables e below (s₁.setTop (entryFrame m #[(.ref r0)] 1)) t := fun t k => castTop (efm2 m r0) k
  obtain ⟨_, T101, L101, X101, hQ101, st101⟩ := own_cC X0 hx hZ hw hown (b := r0) (W := 0) (rmm3 l Z a0 hw [] r0 w0 w1 w2 h0 n0 Z0 E_r0 g_r0 F_elementData_r0 F_size_r0 F_modCount_r0) (by decide) (by decide) (by decide) rfl 10 rfl 11 rfl 15 rfl 14 rfl e0 (g := (mkF m 1 #[oR r0] [(.ref r0)])) rfl (by rw [hml]; rfl) (argsL := []) (rest := []) (lenOf pd0 rfl) rfl (Nat.le_of_eq rfl) (hb hby d2_1) rfl (cN := 0) rfl (by decide) (sN := 0) rfl (by decide)
  obtain ⟨rfl, Nq101, P101_0, P101_1, P101_2, P101_3⟩ := hQ101
  have N101 := Fr.app N0 Nq101
  have ZZ102 : n0 ≤ T101.heap.size := Nat.le_trans Z0 P101_0.1
  have KK103 : Keep h0 T101.heap [r0] := Keep.trans (Keep.refl h0 [r0]) P101_0 (allS (Or.inl (List.mem_of_getElem? (i := 0) rfl)) all0)
  have Ol104 := (hOld.keep P101_0 (allS g_r0 all0))
  have Fz105 := (S_DEFAULTCAPACITY_EMPTY_ELEMENTDATA.ext Ol104.2)
  obtain ⟨T106, X106, e106, st106⟩ := getS2 X101 hx hZ hown (host := "") (Or.inl (own_w hw 27 rfl)) Via.refl rfl Fz105 (g := (mkF m 5 #[oR r0] [(.ref r0)])) rfl (hb hby d2_5)
  obtain ⟨T107, h107, X107, e107, W107, st107⟩ := putF X106 hx hZ hown (host := "") (Or.inl (own_w hw 28 rfl)) Via.refl e106 P101_1 (E_r0.keep P101_0) (Or.inl (own_w hw 29 rfl)) (own_w hw 5 rfl) (ty := (.array (.object kOB))) (by decide) rfl rfl (g := (mkF m 8 #[oR r0] [(.ref de), (.ref r0)])) rfl rfl (hb hby d2_8)
  have Fw107 := P101_1.same W107
  have N107 := Fr.snoc X107 N101 g_r0
  have ZZ108 : n0 ≤ h107.size := Nat.le_trans ZZ102 (Nat.le_of_eq W107.size.symm)
  have KK109 : Keep h0 h107 [r0] := KK103.wr W107 (Or.inl (List.mem_of_getElem? (i := 0) rfl))
  obtain ⟨fs, hr, hrun, hended, hW, hsame⟩ := X107.leave (v := none) (fun _ => rfl)
  refine ⟨_, _, pre0 _ ?_, hrun, hended, _, _, rfl, ?_, ⟨_, rfl⟩, hW, hsame.mono (by decide) (by decide)⟩
  · show own_S p e below s₁ m 0 #[oR r0] [] _
    refine XS.aloadN X0.here hx rfl (hb hby d2_0) rfl rfl ?_
    show own_S p e below s₁ m 1 _ [(.ref r0)] _
    refine st101.trans ?_
    show own_S p e below T101 m 4 _ [] _
    refine XS.aloadN X101.here hx rfl (hb hby d2_4) rfl rfl ?_
    show own_S p e below T101 m 5 _ [(.ref r0)] _
    refine st106 _ ?_
    show own_S p e below T106 m 8 _ [(.ref de), (.ref r0)] _
    refine st107 _ ?_
    show own_S p e below T107 m 11 _ [] _
    exact X107.returnOut hx Bd.returns (hb hby d2_11) hr
  · show Qm2 Z r0 w0 w1 w2 de h0 n0 _ T107.heap _
    rw [e107]
    exact ⟨rfl, N107, KK109, Fw107, (P101_2.other W107 (Or.inr (sn2 hw))), (P101_3.other W107 (Or.inr (Ne.symm (sn0 hw))))⟩
theorem d8_0 : decode jdk_18_method_1_code 0 = .ok (.aload_n 0, 1) := by decide +kernel
theorem d8_1 : decode jdk_18_method_1_code 1 = .ok (.invokespecial 1, 3) := by decide +kernel
theorem d8_4 : decode jdk_18_method_1_code 4 = .ok (.return_, 1) := by decide +kernel
theorem pn3 : plainName "java/lang/Number" = true := by first | (simp [plainName, overriddenIn]; done) | decide +kernel
theorem efm8 (m : MethodId) (r0 : Addr) : entryFrame m #[(.ref r0)] 1 = mkF m 0 #[oR r0] [] := by first | (simp [entryFrame, mkF, argsToLocals, Value.category]; done) | rfl
def Qm8 (Z : State) (r0 : Addr) (h0 : Heap) (n0 : Nat) (v : Option Value) (h : Heap) (L : List Loc) : Prop := v = none ∧ Fr n0 L ∧ (h = h0)
set_option maxRecDepth 65536 in
set_option maxHeartbeats 40000000 in
theorem rmm8 (l : Launch) (Z : State) (a0 : Array Value) (hw : own_HW Z a0) (ws : List Jvm.Cond) (r0 : Addr) (h0 : Heap) (n0 : Nat) (Z0 : n0 ≤ h0.size)  :
    MetFree l (⟨"java/lang/Number", "<init>", "()V"⟩ : MethodName) (head1 (Jvm.Cond.code (⟨"java/lang/Number", "<init>", "()V"⟩ : MethodName) jdk_18_method_1_code 1 none :: ws) ({ frames := 1, cells := 0, slots := 0, locals := 12 } : Room)) (fun a U => a = #[(.ref r0)] ∧ Z.Warmed39 U.vm ∧ U.heap = h0) (fun _ _ _ _ _ => True) (fun _ U o U' => ∃ v L, o = .returned v ∧ Qm8 Z r0 h0 n0 v U'.heap L ∧ FrameEnd U o U' L ({ frames := 1, cells := 0, slots := 0, locals := 12 } : Room).cells ({ frames := 1, cells := 0, slots := 0, locals := 12 } : Room).slots) := by
  refine MetFree.of_bodySF (plainFor_of_name pn3) hisR ?_
  intro p e s m args below meth c s₁ Bd hml0 hP hK
  obtain ⟨rfl, hZ, hh⟩ := hP
  have hx := Bd.exec
  have hby := Bd.bytes
  have hml : c.maxLocals = 1 := hml0
  have hown : s.vm.findClass "java/lang/Number" = some m.cls := findClass_of_methodNamed Bd.named
  have hnm := (name_of_methodNamed Bd.named Bd.method).1
  have X0 : Stand p l e ({ frames := 1, cells := 0, slots := 0, locals := 12 } : Room) s m #[(.ref r0)] below meth c s₁ [] 0 0 := Stand.of_body Bd
  have e0 : s₁.heap = h0 := by rw [← hh, Bd.state]; rfl
  have N0 := Fr.nil n0
  have pre0 : ∀ t, Steps p.tables e below (s₁.setTop (mkF m 0 #[oR r0] [])) t → Steps p.tables e below (s₁.setTop (entryFrame m #[(.ref r0)] 1)) t := fun t k => castTop (efm8 m r0) k
  obtain ⟨T101, X101, e101, st101⟩ := initO X0 hx hZ hown (own_w hw 46 rfl) (own_w hw 23 rfl) (own_w hw 24 rfl) e0 (g := (mkF m 1 #[oR r0] [(.ref r0)])) rfl (by rw [hml]; rfl) rfl (hb hby d8_1) (by decide) (W := 0) (by show 2 * 0 + _ ≤ _; exact Nat.le_of_eq rfl) (by decide)
  obtain ⟨fs, hr, hrun, hended, hW, hsame⟩ := X101.leave (v := none) (fun _ => rfl)
  refine ⟨_, _, pre0 _ ?_, hrun, hended, _, _, rfl, ?_, ⟨_, rfl⟩, hW, hsame.mono (by decide) (by decide)⟩
  · show own_S p e below s₁ m 0 #[oR r0] [] _
    refine XS.aloadN X0.here hx rfl (hb hby d8_0) rfl rfl ?_
    show own_S p e below s₁ m 1 _ [(.ref r0)] _
    refine st101 _ ?_
    show own_S p e below T101 m 4 _ [] _
    exact X101.returnOut hx Bd.returns (hb hby d8_4) hr
  · show Qm8 Z r0 h0 n0 _ T101.heap _
    rw [e101]
    exact ⟨rfl, N0, rfl⟩
theorem d7_0 : decode k7 0 = .ok (.aload_n 0, 1) := by decide +kernel
theorem d7_1 : decode k7 1 = .ok (.invokespecial 113, 3) := by decide +kernel
theorem d7_4 : decode k7 4 = .ok (.aload_n 0, 1) := by decide +kernel
theorem d7_5 : decode k7 5 = .ok (.dload_n 1, 1) := by decide +kernel
theorem d7_6 : decode k7 6 = .ok (.putfield 118, 3) := by decide +kernel
theorem d7_9 : decode k7 9 = .ok (.return_, 1) := by decide +kernel
theorem pn4 : plainName kDB = true := by first | (simp [plainName, overriddenIn]; done) | decide +kernel
theorem efm7 (m : MethodId) (r0 : Addr) (d1 : UInt64) : entryFrame m #[(.ref r0), (.double d1)] 3 = mkF m 0 #[oR r0, oD d1, oV] [] := by first | (simp [entryFrame, mkF, argsToLocals, Value.category]; done) | rfl
def Qm7 (Z : State) (r0 : Addr) (d1 : UInt64) (w0 : Value) (h0 : Heap) (n0 : Nat) (v : Option Value) (h : Heap) (L : List Loc) : Prop := v = none ∧ Fr n0 L ∧ (Keep h0 h [r0]) ∧ (Fld Z h r0 kDB "value" "D" (.double d1))
set_option maxRecDepth 65536 in
set_option maxHeartbeats 40000000 in
theorem rmm7 (l : Launch) (Z : State) (a0 : Array Value) (hw : own_HW Z a0) (ws : List Jvm.Cond) (r0 : Addr) (d1 : UInt64) (w0 : Value) (h0 : Heap) (n0 : Nat) (Z0 : n0 ≤ h0.size) (E_r0 : Exa Z h0 r0 kDB) (g_r0 : n0 ≤ r0) (F_value_r0 : Fld Z h0 r0 kDB "value" "D" w0) :
    MetFree l (⟨kDB, "<init>", "(D)V"⟩ : MethodName) (head1 (Jvm.Cond.code (⟨kDB, "<init>", "(D)V"⟩ : MethodName) jdk_117_method_9_code 3 none :: ws) ({ frames := 2, cells := 0, slots := 0, locals := 24 } : Room)) (fun a U => a = #[(.ref r0), (.double d1)] ∧ Z.Warmed39 U.vm ∧ U.heap = h0) (fun _ _ _ _ _ => True) (fun _ U o U' => ∃ v L, o = .returned v ∧ Qm7 Z r0 d1 w0 h0 n0 v U'.heap L ∧ FrameEnd U o U' L ({ frames := 2, cells := 0, slots := 0, locals := 24 } : Room).cells ({ frames := 2, cells := 0, slots := 0, locals := 24 } : Room).slots) := by
  refine MetFree.of_bodySF (plainFor_of_name pn4) hisR ?_
  intro p e s m args below meth c s₁ Bd hml0 hP hK
  obtain ⟨rfl, hZ, hh⟩ := hP
  have hx := Bd.exec
  have hby := Bd.bytes
  have hml : c.maxLocals = 3 := hml0
  have hown : s.vm.findClass kDB = some m.cls := findClass_of_methodNamed Bd.named
  have hnm := (name_of_methodNamed Bd.named Bd.method).1
  have X0 : Stand p l e ({ frames := 2, cells := 0, slots := 0, locals := 24 } : Room) s m #[(.ref r0), (.double d1)] below meth c s₁ [] 0 0 := Stand.of_body Bd
  have e0 : s₁.heap = h0 := by rw [← hh, Bd.state]; rfl
  have N0 := Fr.nil n0
  have pre0 : ∀ t, Steps p.tables e below (s₁.setTop (mkF m 0 #[oR r0, oD d1, oV] [])) t → Steps p.tables e below (s₁.setTop (entryFrame m #[(.ref r0), (.double d1)] 3)) t := fun t k => castTop (efm7 m r0 d1) k
  obtain ⟨_, T101, L101, X101, hQ101, st101⟩ := own_cC X0 hx hZ hw hown (b := r0) (W := 0) (rmm8 l Z a0 hw [] r0 h0 n0 Z0 ) (by decide) (by decide) (by decide) rfl 40 rfl 41 rfl 45 rfl 44 rfl e0 (g := (mkF m 1 #[oR r0, oD d1, oV] [(.ref r0)])) rfl (by rw [hml]; rfl) (argsL := []) (rest := []) (lenOf pd0 rfl) rfl (Nat.le_of_eq rfl) (hb hby d7_1) rfl (cN := 0) rfl (by decide) (sN := 0) rfl (by decide)
  obtain ⟨rfl, Nq101, P101_0⟩ := hQ101
  have N101 := Fr.app N0 Nq101
  obtain ⟨T102, h102, X102, e102, W102, st102⟩ := putF X101 hx hZ hown (host := "") (Or.inl (own_w hw 47 rfl)) Via.refl P101_0 F_value_r0 E_r0 (Or.inr ⟨(own_w hw 48 rfl), rfl, hnm⟩) (own_w hw 35 rfl) (ty := .double) (by decide) rfl rfl (g := (mkF m 6 #[oR r0, oD d1, oV] [(.double d1), (.ref r0)])) rfl rfl (hb hby d7_6)
  have Fw102 := F_value_r0.same W102
  have N102 := Fr.snoc X102 N101 g_r0
  have ZZ103 : n0 ≤ h102.size := Nat.le_trans Z0 (Nat.le_of_eq W102.size.symm)
  have KK104 : Keep h0 h102 [r0] := (Keep.refl h0 [r0]).wr W102 (Or.inl (List.mem_of_getElem? (i := 0) rfl))
  obtain ⟨fs, hr, hrun, hended, hW, hsame⟩ := X102.leave (v := none) (fun _ => rfl)
  refine ⟨_, _, pre0 _ ?_, hrun, hended, _, _, rfl, ?_, ⟨_, rfl⟩, hW, hsame.mono (by decide) (by decide)⟩
  · show own_S p e below s₁ m 0 #[oR r0, oD d1, oV] [] _
    refine XS.aloadN X0.here hx rfl (hb hby d7_0) rfl rfl ?_
    show own_S p e below s₁ m 1 _ [(.ref r0)] _
    refine st101.trans ?_
    show own_S p e below T101 m 4 _ [] _
    refine XS.aloadN X101.here hx rfl (hb hby d7_4) rfl rfl ?_
    refine XS.dloadN X101.here hx rfl (hb hby d7_5) rfl ?_
    show own_S p e below T101 m 6 _ [(.double d1), (.ref r0)] _
    refine st102 _ ?_
    show own_S p e below T102 m 9 _ [] _
    exact X102.returnOut hx Bd.returns (hb hby d7_9) hr
  · show Qm7 Z r0 d1 w0 h0 n0 _ T102.heap _
    rw [e102]
    exact ⟨rfl, N102, KK104, Fw102⟩
theorem pd1 : parseMethodDescriptor "(D)V" = some ⟨[.double], none⟩ := by decide +kernel
theorem d6_0 : decode k6 0 = .ok (.new 1, 3) := by decide +kernel
theorem d6_3 : decode k6 3 = .ok (.dup, 1) := by decide +kernel
theorem d6_4 : decode k6 4 = .ok (.dload_n 0, 1) := by decide +kernel
theorem d6_5 : decode k6 5 = .ok (.invokespecial 105, 3) := by decide +kernel
theorem d6_8 : decode k6 8 = .ok (.areturn, 1) := by decide +kernel
theorem efm6 (m : MethodId) (d0 : UInt64) : entryFrame m #[(.double d0)] 2 = mkF m 0 #[oD d0, oV] [] := by first | (simp [entryFrame, mkF, argsToLocals, Value.category]; done) | rfl
def Qm6 (Z : State) (d0 : UInt64) (h0 : Heap) (n0 : Nat) (v : Option Value) (h : Heap) (L : List Loc) : Prop := ∃ x : Addr, v = some (.ref x) ∧ Fr n0 L ∧ (Keep h0 h []) ∧ (h0.size ≤ x) ∧ (Exa Z h x kDB) ∧ (Fld Z h x kDB "value" "D" (.double d0))
set_option maxRecDepth 65536 in
set_option maxHeartbeats 40000000 in
theorem rmm6 (l : Launch) (Z : State) (a0 : Array Value) (hw : own_HW Z a0) (ws : List Jvm.Cond) (d0 : UInt64) (h0 : Heap) (n0 : Nat) (Z0 : n0 ≤ h0.size)  :
    MetFree l (⟨kDB, "valueOf", "(D)Ljava/lang/Double;"⟩ : MethodName) (head1 (Jvm.Cond.code (⟨kDB, "valueOf", "(D)Ljava/lang/Double;"⟩ : MethodName) jdk_117_method_4_code 2 (some (.object kDB)) :: ws) ({ frames := 3, cells := 1, slots := 1, locals := 39 } : Room)) (fun a U => a = #[(.double d0)] ∧ Z.Warmed39 U.vm ∧ U.heap = h0) (fun _ _ _ _ _ => True) (fun _ U o U' => ∃ v L, o = .returned v ∧ Qm6 Z d0 h0 n0 v U'.heap L ∧ FrameEnd U o U' L ({ frames := 3, cells := 1, slots := 1, locals := 39 } : Room).cells ({ frames := 3, cells := 1, slots := 1, locals := 39 } : Room).slots) := by
  refine MetFree.of_bodySF (plainFor_of_name pn4) hisR ?_
  intro p e s m args below meth c s₁ Bd hml0 hP hK
  obtain ⟨rfl, hZ, hh⟩ := hP
  have hx := Bd.exec
  have hby := Bd.bytes
  have hml : c.maxLocals = 2 := hml0
  have hown : s.vm.findClass kDB = some m.cls := findClass_of_methodNamed Bd.named
  have hnm := (name_of_methodNamed Bd.named Bd.method).1
  have X0 : Stand p l e ({ frames := 3, cells := 1, slots := 1, locals := 39 } : Room) s m #[(.double d0)] below meth c s₁ [] 0 0 := Stand.of_body Bd
  have e0 : s₁.heap = h0 := by rw [← hh, Bd.state]; rfl
  have N0 := Fr.nil n0
  have pre0 : ∀ t, Steps p.tables e below (s₁.setTop (mkF m 0 #[oD d0, oV] [])) t → Steps p.tables e below (s₁.setTop (entryFrame m #[(.double d0)] 2)) t := fun t k => castTop (efm6 m d0) k
  obtain ⟨T101, h101, X101, e101, E101, A101, D101, -, st101⟩ := newO X0 hx hZ hown (own_w hw 34 rfl) (own_w hw 35 rfl) (own_w hw 32 rfl) e0 (g := (mkF m 0 #[oD d0, oV] [])) rfl (hb hby d6_0) (by decide) (by decide)
  obtain ⟨b101, g101⟩ : ∃ z, z = h0.size := ⟨_, rfl⟩
  rw [← g101] at A101 D101 st101
  have g_b101 : n0 ≤ b101 := Nat.le_trans Z0 (Nat.le_of_eq g101.symm)
  have sz_b101 : h0.size ≤ b101 := Nat.le_trans (Keep.refl h0 []).1 (Nat.le_of_eq g101.symm)
  have ZZ102 : n0 ≤ h101.size := Nat.le_trans Z0 E101.1
  have KK103 : Keep h0 h101 [] := (Keep.refl h0 []).ext E101
  have F_value_b101 : Fld Z h101 b101 kDB "value" "D" (.double 0) := D101 (Or.inr (own_w hw 48 rfl)) (ty := .double) (by decide)
  obtain ⟨_, T104, L104, X104, hQ104, st104⟩ := own_cC X101 hx hZ hw hown (b := b101) (W := 1) (rmm7 l Z a0 hw [] b101 d0 (.double 0) h101 n0 ZZ102 A101 g_b101 F_value_b101) (by decide) (by decide) (by decide) rfl 36 rfl 37 rfl 39 rfl 32 rfl e101 (g := (mkF m 5 #[oD d0, oV] [(.double d0), (.ref b101), (.ref b101)])) rfl (by rw [hml]; rfl) (argsL := [(.double d0)]) (rest := [(.ref b101)]) (lenOf pd1 rfl) rfl (Nat.le_of_eq rfl) (hb hby d6_5) rfl (cN := 1) rfl (by decide) (sN := 1) rfl (by decide)
  obtain ⟨rfl, Nq104, P104_0, P104_1⟩ := hQ104
  have N104 := Fr.app N0 Nq104
  have ZZ105 : n0 ≤ T104.heap.size := Nat.le_trans ZZ102 P104_0.1
  have KK106 : Keep h0 T104.heap [] := Keep.trans KK103 P104_0 (allS (Or.inr sz_b101) all0)
  obtain ⟨fs, hr, hrun, hended, hW, hsame⟩ := X104.leave (v := some (.ref b101)) (fun h => by rw [Bd.returns] at h; cases h)
  refine ⟨_, _, pre0 _ ?_, hrun, hended, _, _, rfl, ?_, ⟨_, rfl⟩, hW, hsame.mono (by decide) (by decide)⟩
  · show own_S p e below s₁ m 0 #[oD d0, oV] [] _
    refine st101 _ ?_
    show own_S p e below T101 m 3 _ [(.ref b101)] _
    refine XS.dup X101.here hx rfl (hb hby d6_3) rfl rfl ?_
    refine XS.dloadN X101.here hx rfl (hb hby d6_4) rfl ?_
    show own_S p e below T101 m 5 _ [(.double d0), (.ref b101), (.ref b101)] _
    refine st104.trans ?_
    show own_S p e below T104 m 8 _ [(.ref b101)] _
    exact retOut X104 hx Bd.returns rfl (Or.inr (Or.inr (Or.inr (Or.inr ⟨rfl, rfl, rfl⟩)))) (hb hby d6_8) hr
  · show Qm6 Z d0 h0 n0 _ T104.heap _
    exact ⟨b101, rfl, N104, KK106, sz_b101, (A101.keep P104_0), P104_1⟩
theorem d13_0 : decode k13 0 = .ok (.iload_n 0, 1) := by decide +kernel
theorem d13_1 : decode k13 1 = .ok (.iload_n 1, 1) := by decide +kernel
theorem d13_2 : decode k13 2 = .ok (.if_icmp .lt 7, 3) := by decide +kernel
theorem d13_5 : decode k13 5 = .ok (.iload_n 0, 1) := by decide +kernel
theorem d13_6 : decode k13 6 = .ok (.goto 4, 3) := by decide +kernel
theorem d13_10 : decode k13 10 = .ok (.ireturn, 1) := by decide +kernel
theorem efm13 (m : MethodId)  : entryFrame m #[(.int 10), (.int 1)] 2 = mkF m 0 #[oI 10, oI 1] [] := by first | (simp [entryFrame, mkF, argsToLocals, Value.category]; done) | rfl
def Qm13 (Z : State)  (h0 : Heap) (n0 : Nat) (v : Option Value) (h : Heap) (L : List Loc) : Prop := v = some (.int 10) ∧ Fr n0 L ∧ (h = h0)
set_option maxRecDepth 65536 in
set_option maxHeartbeats 40000000 in
theorem rmm13 (l : Launch) (Z : State) (a0 : Array Value) (hw : own_HW Z a0) (ws : List Jvm.Cond)  (h0 : Heap) (n0 : Nat) (Z0 : n0 ≤ h0.size)  :
    MetFree l (⟨"java/lang/Math", "max", "(II)I"⟩ : MethodName) (head1 (Jvm.Cond.code (⟨"java/lang/Math", "max", "(II)I"⟩ : MethodName) jdk_29_method_65_code 2 (some .int) :: ws) ({ frames := 0, cells := 0, slots := 0, locals := 0 } : Room)) (fun a U => a = #[(.int 10), (.int 1)] ∧ Z.Warmed39 U.vm ∧ U.heap = h0) (fun _ _ _ _ _ => True) (fun _ U o U' => ∃ v L, o = .returned v ∧ Qm13 Z  h0 n0 v U'.heap L ∧ FrameEnd U o U' L ({ frames := 0, cells := 0, slots := 0, locals := 0 } : Room).cells ({ frames := 0, cells := 0, slots := 0, locals := 0 } : Room).slots) := by
  refine MetFree.of_bodySF (Jvm.Free.JP.mathPlain rfl (by decide +kernel)) hisR ?_
  intro p e s m args below meth c s₁ Bd hml0 hP hK
  obtain ⟨rfl, hZ, hh⟩ := hP
  have hx := Bd.exec
  have hby := Bd.bytes
  have hml : c.maxLocals = 2 := hml0
  have hown : s.vm.findClass "java/lang/Math" = some m.cls := findClass_of_methodNamed Bd.named
  have hnm := (name_of_methodNamed Bd.named Bd.method).1
  have X0 : Stand p l e ({ frames := 0, cells := 0, slots := 0, locals := 0 } : Room) s m #[(.int 10), (.int 1)] below meth c s₁ [] 0 0 := Stand.of_body Bd
  have e0 : s₁.heap = h0 := by rw [← hh, Bd.state]; rfl
  have N0 := Fr.nil n0
  have pre0 : ∀ t, Steps p.tables e below (s₁.setTop (mkF m 0 #[oI 10, oI 1] [])) t → Steps p.tables e below (s₁.setTop (entryFrame m #[(.int 10), (.int 1)] 2)) t := fun t k => castTop (efm13 m ) k
  obtain ⟨fs, hr, hrun, hended, hW, hsame⟩ := X0.leave (v := some (.int 10)) (fun h => by rw [Bd.returns] at h; cases h)
  refine ⟨_, _, pre0 _ ?_, hrun, hended, _, _, rfl, ?_, ⟨_, rfl⟩, hW, hsame.mono (by decide) (by decide)⟩
  · show own_S p e below s₁ m 0 #[oI 10, oI 1] [] _
    refine XS.iloadN X0.here hx rfl (hb hby d13_0) rfl ?_
    refine XS.iloadN X0.here hx rfl (hb hby d13_1) rfl ?_
    refine XS.icmpNo X0.here hx rfl (hb hby d13_2) rfl (flt (by decide : ¬ ((10 : Int32) < (1 : Int32)))).1 ?_
    refine XS.iloadN X0.here hx rfl (hb hby d13_5) rfl ?_
    show own_S p e below s₁ m 6 _ [(.int 10)] _
    refine XS.goto X0.here hx rfl (pc0 := 6) (pc' := 10) rfl (hb hby d13_6) (by decide) (by decide) ?_
    show own_S p e below s₁ m 10 _ [(.int 10)] _
    exact retOut X0 hx Bd.returns rfl (Or.inl ⟨rfl, Or.inl rfl, _, rfl⟩) (hb hby d13_10) hr
  · show Qm13 Z  h0 n0 _ s₁.heap _
    rw [e0]
    exact ⟨rfl, N0, rfl⟩
theorem pd2 : parseMethodDescriptor "(II)I" = some ⟨[.int, .int], some .int⟩ := by decide +kernel
theorem d12_0 : decode k12 0 = .ok (.aload_n 0, 1) := by decide +kernel
theorem d12_1 : decode k12 1 = .ok (.getfield 9, 3) := by decide +kernel
theorem d12_4 : decode k12 4 = .ok (.arraylength, 1) := by decide +kernel
theorem d12_5 : decode k12 5 = .ok (.istore_n 2, 1) := by decide +kernel
theorem d12_6 : decode k12 6 = .ok (.iload_n 2, 1) := by decide +kernel
theorem d12_7 : decode k12 7 = .ok (.ifCond .gt 13, 3) := by decide +kernel
theorem d12_10 : decode k12 10 = .ok (.aload_n 0, 1) := by decide +kernel
theorem d12_11 : decode k12 11 = .ok (.getfield 9, 3) := by decide +kernel
theorem d12_14 : decode k12 14 = .ok (.getstatic 39, 3) := by decide +kernel
theorem d12_17 : decode k12 17 = .ok (.if_acmp .eq 28, 3) := by decide +kernel
theorem d12_45 : decode k12 45 = .ok (.aload_n 0, 1) := by decide +kernel
theorem d12_46 : decode k12 46 = .ok (.bipush 10, 2) := by decide +kernel
theorem d12_48 : decode k12 48 = .ok (.iload_n 1, 1) := by decide +kernel
theorem d12_49 : decode k12 49 = .ok (.invokestatic 79, 3) := by decide +kernel
theorem d12_52 : decode k12 52 = .ok (.anewarray 7, 3) := by decide +kernel
theorem d12_55 : decode k12 55 = .ok (.dup_x1, 1) := by decide +kernel
theorem d12_56 : decode k12 56 = .ok (.putfield 9, 3) := by decide +kernel
theorem d12_59 : decode k12 59 = .ok (.areturn, 1) := by decide +kernel
theorem efm12 (m : MethodId) (r0 : Addr) : entryFrame m #[(.ref r0), (.int 1)] 4 = mkF m 0 #[oR r0, oI 1, oU, oU] [] := by first | (simp [entryFrame, mkF, argsToLocals, Value.category]; done) | rfl
def Qm12 (Z : State) (r0 : Addr) (wM : Value) (de : Addr) (kde : ClassId) (h0 : Heap) (n0 : Nat) (v : Option Value) (h : Heap) (L : List Loc) : Prop := ∃ el : Addr, ∃ kel : ClassId, v = some (.ref el) ∧ Fr n0 L ∧ (Keep h0 h [r0]) ∧ (h0.size ≤ el) ∧ (Fld Z h r0 kAL "elementData" kOA (.ref el)) ∧ (Fld Z h r0 kAL "size" "I" (.int 0)) ∧ (Fld Z h r0 kABL "modCount" "I" wM) ∧ (Arv Z h el kel (.object kOB) (10 : Int32) [.null, .null, .null, .null] .null) ∧ (Exa Z h el kOA) ∧ (Ovr Z kel kOB)
set_option maxRecDepth 65536 in
set_option maxHeartbeats 40000000 in
theorem rmm12 (l : Launch) (Z : State) (a0 : Array Value) (hw : own_HW Z a0) (ws : List Jvm.Cond) (r0 : Addr) (wM : Value) (de : Addr) (kde : ClassId) (h0 : Heap) (n0 : Nat) (Z0 : n0 ≤ h0.size) (E_r0 : Exa Z h0 r0 kAL) (g_r0 : n0 ≤ r0) (F_elementData_r0 : Fld Z h0 r0 kAL "elementData" kOA (.ref de)) (F_size_r0 : Fld Z h0 r0 kAL "size" "I" (.int 0)) (F_modCount_r0 : Fld Z h0 r0 kABL "modCount" "I" wM) (hOld : Old Z n0 h0) (S_DEFAULTCAPACITY_EMPTY_ELEMENTDATA : Sta Z Z.heap kAL "DEFAULTCAPACITY_EMPTY_ELEMENTDATA" kOA (.ref de)) (V_de : Arv Z Z.heap de kde (.object kOB) (0 : Int32) [] .null) (E_de : Exa Z Z.heap de kOA) :
    MetFree l (⟨kAL, "grow", "(I)[Ljava/lang/Object;"⟩ : MethodName) (head1 (Jvm.Cond.code (⟨kAL, "grow", "(I)[Ljava/lang/Object;"⟩ : MethodName) jdk_38_method_6_code 4 (some (.array (.object kOB))) :: ws) ({ frames := 1, cells := 1, slots := 10, locals := 14 } : Room)) (fun a U => a = #[(.ref r0), (.int 1)] ∧ Z.Warmed39 U.vm ∧ U.heap = h0) (fun _ _ _ _ _ => True) (fun _ U o U' => ∃ v L, o = .returned v ∧ Qm12 Z r0 wM de kde h0 n0 v U'.heap L ∧ FrameEnd U o U' L ({ frames := 1, cells := 1, slots := 10, locals := 14 } : Room).cells ({ frames := 1, cells := 1, slots := 10, locals := 14 } : Room).slots) := by
  refine MetFree.of_bodySF (plainFor_of_name pn2) hisR ?_
  intro p e s m args below meth c s₁ Bd hml0 hP hK
  obtain ⟨rfl, hZ, hh⟩ := hP
  have hx := Bd.exec
  have hby := Bd.bytes
  have hml : c.maxLocals = 4 := hml0
  have hown : s.vm.findClass kAL = some m.cls := findClass_of_methodNamed Bd.named
  have hnm := (name_of_methodNamed Bd.named Bd.method).1
  have X0 : Stand p l e ({ frames := 1, cells := 1, slots := 10, locals := 14 } : Room) s m #[(.ref r0), (.int 1)] below meth c s₁ [] 0 0 := Stand.of_body Bd
  have e0 : s₁.heap = h0 := by rw [← hh, Bd.state]; rfl
  have N0 := Fr.nil n0
  have pre0 : ∀ t, Steps p.tables e below (s₁.setTop (mkF m 0 #[oR r0, oI 1, oU, oU] [])) t → Steps p.tables e below (s₁.setTop (entryFrame m #[(.ref r0), (.int 1)] 4)) t := fun t k => castTop (efm12 m r0) k
  obtain ⟨T101, X101, e101, st101⟩ := getF X0 hx hZ hown (host := "") (Or.inl (own_w hw 28 rfl)) Via.refl e0 F_elementData_r0 (g := (mkF m 1 #[oR r0, oI 1, oU, oU] [(.ref r0)])) rfl rfl (hb hby d12_1)
  have Fz102 := (V_de.ext hOld.2)
  obtain ⟨cl103, Ar103, qk103, Sz103, Nz103, Hh103, Gg103⟩ := id Fz102
  obtain ⟨T104, X104, e104, st104⟩ := getF X101 hx hZ hown (host := "") (Or.inl (own_w hw 28 rfl)) Via.refl e101 F_elementData_r0 (g := (mkF m 11 #[oR r0, oI 1, oI 0, oU] [(.ref r0)])) rfl rfl (hb hby d12_11)
  have Fz105 := (S_DEFAULTCAPACITY_EMPTY_ELEMENTDATA.ext hOld.2)
  obtain ⟨T106, X106, e106, st106⟩ := getS2 X104 hx hZ hown (host := "") (Or.inl (own_w hw 27 rfl)) Via.refl e104 Fz105 (g := (mkF m 14 #[oR r0, oI 1, oI 0, oU] [(.ref de)])) rfl (hb hby d12_14)
  obtain ⟨_, T107, L107, X107, hQ107, st107⟩ := own_cS X106 hx hZ hw hown (W := 1) (rmm13 l Z a0 hw []  h0 n0 Z0 ) (by decide) (by decide) (by decide) 77 rfl 78 rfl 79 rfl 80 rfl e106 (g := (mkF m 49 #[oR r0, oI 1, oI 0, oU] [(.int 1), (.int 10), (.ref r0)])) rfl (by rw [hml]; rfl) (argsL := [(.int 10), (.int 1)]) (rest := [(.ref r0)]) (lenOf pd2 rfl) rfl (Nat.le_of_eq rfl) (hb hby d12_49) rfl (cN := 0) rfl (by decide) (sN := 0) rfl (by decide)
  obtain ⟨rfl, Nq107, P107_0⟩ := hQ107
  have N107 := Fr.app N0 Nq107
  obtain ⟨T108, h108, k108, X108, e108, E108, A108, Ea108, O108, st108⟩ := newRE X107 hx hZ hown (own_w hw 81 rfl) (own_w hw 82 rfl) P107_0 (g := (mkF m 52 #[oR r0, oI 1, oI 0, oU] [(.int 10), (.ref r0)])) rfl (hb hby d12_52) rfl (by decide) (cap := 10) (by decide) (by decide) (by decide) (by decide) (ad := kOA) (by decide)
  obtain ⟨b108, g108⟩ : ∃ z, z = h0.size := ⟨_, rfl⟩
  rw [← g108] at A108 Ea108 st108
  have g_b108 : n0 ≤ b108 := Nat.le_trans Z0 (Nat.le_of_eq g108.symm)
  have sz_b108 : h0.size ≤ b108 := Nat.le_trans (Keep.refl h0 [r0]).1 (Nat.le_of_eq g108.symm)
  have ZZ109 : n0 ≤ h108.size := Nat.le_trans Z0 E108.1
  have KK110 : Keep h0 h108 [r0] := (Keep.refl h0 [r0]).ext E108
  have V_b108 : Arv Z h108 b108 k108 (.object kOB) (10 : Int32) [.null, .null, .null, .null] .null := (Arv.new A108 (by decide)).pad (pad_rep [] .null 4)
  have Fc111 := (F_elementData_r0.ext E108)
  obtain ⟨T112, h112, X112, e112, W112, st112⟩ := putF X108 hx hZ hown (host := "") (Or.inl (own_w hw 28 rfl)) Via.refl e108 Fc111 (E_r0.ext E108) (Or.inl (own_w hw 29 rfl)) (own_w hw 5 rfl) (ty := (.array (.object kOB))) (by decide) rfl rfl (g := (mkF m 56 #[oR r0, oI 1, oI 0, oU] [(.ref b108), (.ref r0), (.ref b108)])) rfl rfl (hb hby d12_56)
  have Fw112 := Fc111.same W112
  have N112 := Fr.snoc X112 N107 g_r0
  have ZZ113 : n0 ≤ h112.size := Nat.le_trans ZZ109 (Nat.le_of_eq W112.size.symm)
  have KK114 : Keep h0 h112 [r0] := KK110.wr W112 (Or.inl (List.mem_of_getElem? (i := 0) rfl))
  have Fc115 := ((E_r0.ext E108).wr W112)
  have nq116 : b108 ≠ r0 := (ne_exa (Ea108.wr W112) Fc115 (by decide))
  obtain ⟨fs, hr, hrun, hended, hW, hsame⟩ := X112.leave (v := some (.ref b108)) (fun h => by rw [Bd.returns] at h; cases h)
  refine ⟨_, _, pre0 _ ?_, hrun, hended, _, _, rfl, ?_, ⟨_, rfl⟩, hW, hsame.mono (by decide) (by decide)⟩
  · show own_S p e below s₁ m 0 #[oR r0, oI 1, oU, oU] [] _
    refine XS.aloadN X0.here hx rfl (hb hby d12_0) rfl rfl ?_
    show own_S p e below s₁ m 1 _ [(.ref r0)] _
    refine st101 _ ?_
    show own_S p e below T101 m 4 _ [(.ref de)] _
    refine X101.arraylength hx (by rw [e101]; exact Ar103.1) (State.isArrayOf_alike hZ.alike Ar103.2.1) (g := (mkF m 4 #[oR r0, oI 1, oU, oU] [(.ref de)])) rfl rfl (hb hby d12_4) _ ?_
    rw [len_of Sz103 Nz103]
    show own_S p e below T101 m 5 _ [(.int 0)] _
    refine XS.istoreN X101.here hx rfl (hb hby d12_5) rfl (l' := #[oR r0, oI 1, oI 0, oU]) rfl ?_
    refine XS.iloadN X101.here hx rfl (hb hby d12_6) rfl ?_
    refine XS.ifNo X101.here hx rfl (hb hby d12_7) rfl ((if0 _ _).trans (flt (by decide : ¬ ((0 : Int32) < (0 : Int32)))).2.2.1) ?_
    refine XS.aloadN X101.here hx rfl (hb hby d12_10) rfl rfl ?_
    show own_S p e below T101 m 11 _ [(.ref r0)] _
    refine st104 _ ?_
    show own_S p e below T104 m 14 _ [(.ref de)] _
    refine st106 _ ?_
    show own_S p e below T106 m 17 _ [(.ref de), (.ref de)] _
    refine Jvm.RoadKit.acmp (g := (mkF m 17 #[oR r0, oI 1, oI 0, oU] [(.ref de), (.ref de)])) X106 hx rfl rfl rfl (pc0 := 17) (pc' := 45) (same := true) rfl (hb hby d12_17) rfl (decide_eq_true rfl) (by decide) (by decide) ?_
    show own_S p e below T106 m 45 _ [] _
    refine XS.aloadN X106.here hx rfl (hb hby d12_45) rfl rfl ?_
    refine XS.bipush X106.here hx rfl (hb hby d12_46) ?_
    refine XS.iloadN X106.here hx rfl (hb hby d12_48) rfl ?_
    show own_S p e below T106 m 49 _ [(.int 1), (.int 10), (.ref r0)] _
    refine st107.trans ?_
    show own_S p e below T107 m 52 _ [(.int 10), (.ref r0)] _
    refine st108 _ ?_
    show own_S p e below T108 m 55 _ [(.ref b108), (.ref r0)] _
    refine XS.dupX1 X108.here hx rfl (hb hby d12_55) rfl rfl rfl ?_
    show own_S p e below T108 m 56 _ [(.ref b108), (.ref r0), (.ref b108)] _
    refine st112 _ ?_
    show own_S p e below T112 m 59 _ [(.ref b108)] _
    exact retOut X112 hx Bd.returns rfl (Or.inr (Or.inr (Or.inr (Or.inr ⟨rfl, rfl, rfl⟩)))) (hb hby d12_59) hr
  · show Qm12 Z r0 wM de kde h0 n0 _ T112.heap _
    rw [e112]
    exact ⟨b108, k108, rfl, N112, KK114, sz_b108, Fw112, ((F_size_r0.ext E108).other W112 (Or.inr (sn2 hw))), ((F_modCount_r0.ext E108).other W112 (Or.inr (Ne.symm (sn0 hw)))), (V_b108.other W112 nq116), (Ea108.wr W112), O108⟩
theorem pd3 : parseMethodDescriptor "(I)[Ljava/lang/Object;" = some ⟨[.int], some (.array (.object kOB))⟩ := by decide +kernel
theorem d11_0 : decode k11 0 = .ok (.aload_n 0, 1) := by decide +kernel
theorem d11_1 : decode k11 1 = .ok (.aload_n 0, 1) := by decide +kernel
theorem d11_2 : decode k11 2 = .ok (.getfield 48, 3) := by decide +kernel
theorem d11_5 : decode k11 5 = .ok (.iconst 1, 1) := by decide +kernel
theorem d11_6 : decode k11 6 = .ok (.iadd, 1) := by decide +kernel
theorem d11_7 : decode k11 7 = .ok (.invokevirtual 69, 3) := by decide +kernel
theorem d11_10 : decode k11 10 = .ok (.areturn, 1) := by decide +kernel
theorem efm11 (m : MethodId) (r0 : Addr) : entryFrame m #[(.ref r0)] 1 = mkF m 0 #[oR r0] [] := by first | (simp [entryFrame, mkF, argsToLocals, Value.category]; done) | rfl
def Qm11 (Z : State) (r0 : Addr) (wM : Value) (de : Addr) (kde : ClassId) (h0 : Heap) (n0 : Nat) (v : Option Value) (h : Heap) (L : List Loc) : Prop := ∃ el : Addr, ∃ kel : ClassId, v = some (.ref el) ∧ Fr n0 L ∧ (Keep h0 h [r0]) ∧ (h0.size ≤ el) ∧ (Fld Z h r0 kAL "elementData" kOA (.ref el)) ∧ (Fld Z h r0 kAL "size" "I" (.int 0)) ∧ (Fld Z h r0 kABL "modCount" "I" wM) ∧ (Arv Z h el kel (.object kOB) (10 : Int32) [.null, .null, .null, .null] .null) ∧ (Exa Z h el kOA) ∧ (Ovr Z kel kOB)
set_option maxRecDepth 65536 in
set_option maxHeartbeats 40000000 in
theorem rmm11 (l : Launch) (Z : State) (a0 : Array Value) (hw : own_HW Z a0) (ws : List Jvm.Cond) (r0 : Addr) (wM : Value) (de : Addr) (kde : ClassId) (h0 : Heap) (n0 : Nat) (Z0 : n0 ≤ h0.size) (E_r0 : Exa Z h0 r0 kAL) (g_r0 : n0 ≤ r0) (F_elementData_r0 : Fld Z h0 r0 kAL "elementData" kOA (.ref de)) (F_size_r0 : Fld Z h0 r0 kAL "size" "I" (.int 0)) (F_modCount_r0 : Fld Z h0 r0 kABL "modCount" "I" wM) (hOld : Old Z n0 h0) (S_DEFAULTCAPACITY_EMPTY_ELEMENTDATA : Sta Z Z.heap kAL "DEFAULTCAPACITY_EMPTY_ELEMENTDATA" kOA (.ref de)) (V_de : Arv Z Z.heap de kde (.object kOB) (0 : Int32) [] .null) (E_de : Exa Z Z.heap de kOA) :
    MetFree l (⟨kAL, "grow", "()[Ljava/lang/Object;"⟩ : MethodName) (head1 (Jvm.Cond.code (⟨kAL, "grow", "()[Ljava/lang/Object;"⟩ : MethodName) jdk_38_method_7_code 1 (some (.array (.object kOB))) :: ws) ({ frames := 2, cells := 1, slots := 10, locals := 29 } : Room)) (fun a U => a = #[(.ref r0)] ∧ Z.Warmed39 U.vm ∧ U.heap = h0) (fun _ _ _ _ _ => True) (fun _ U o U' => ∃ v L, o = .returned v ∧ Qm11 Z r0 wM de kde h0 n0 v U'.heap L ∧ FrameEnd U o U' L ({ frames := 2, cells := 1, slots := 10, locals := 29 } : Room).cells ({ frames := 2, cells := 1, slots := 10, locals := 29 } : Room).slots) := by
  refine MetFree.of_bodySF (plainFor_of_name pn2) hisR ?_
  intro p e s m args below meth c s₁ Bd hml0 hP hK
  obtain ⟨rfl, hZ, hh⟩ := hP
  have hx := Bd.exec
  have hby := Bd.bytes
  have hml : c.maxLocals = 1 := hml0
  have hown : s.vm.findClass kAL = some m.cls := findClass_of_methodNamed Bd.named
  have hnm := (name_of_methodNamed Bd.named Bd.method).1
  have X0 : Stand p l e ({ frames := 2, cells := 1, slots := 10, locals := 29 } : Room) s m #[(.ref r0)] below meth c s₁ [] 0 0 := Stand.of_body Bd
  have e0 : s₁.heap = h0 := by rw [← hh, Bd.state]; rfl
  have N0 := Fr.nil n0
  have pre0 : ∀ t, Steps p.tables e below (s₁.setTop (mkF m 0 #[oR r0] [])) t → Steps p.tables e below (s₁.setTop (entryFrame m #[(.ref r0)] 1)) t := fun t k => castTop (efm11 m r0) k
  obtain ⟨T101, X101, e101, st101⟩ := getF X0 hx hZ hown (host := "") (Or.inl (own_w hw 60 rfl)) Via.refl e0 F_size_r0 (g := (mkF m 2 #[oR r0] [(.ref r0), (.ref r0)])) rfl rfl (hb hby d11_2)
  obtain ⟨_, T102, L102, X102, hQ102, st102⟩ := own_cP X101 hx hZ hw hown (b := r0) (W := 0) (rmm12 l Z a0 hw [] r0 wM de kde h0 n0 Z0 E_r0 g_r0 F_elementData_r0 F_size_r0 F_modCount_r0 hOld S_DEFAULTCAPACITY_EMPTY_ELEMENTDATA V_de E_de) (by decide) (by decide) (by decide) 72 rfl 73 rfl 74 rfl 76 rfl 6 rfl (own_w hw 75 rfl) e101 E_r0 (g := (mkF m 7 #[oR r0] [(.int 1), (.ref r0)])) rfl (by rw [hml]; rfl) (argsL := [(.int 1)]) (rest := []) (lenOf pd3 rfl) rfl (Nat.le_of_eq rfl) (hb hby d11_7) rfl (cN := 1) rfl (by decide) (sN := 10) rfl (by decide)
  obtain ⟨el_102, kel_102, rfl, Nq102, P102_0, P102_1, P102_2, P102_3, P102_4, P102_5, P102_6, P102_7⟩ := hQ102
  have N102 := Fr.app N0 Nq102
  have g_el_102 : n0 ≤ el_102 := Nat.le_trans Z0 P102_1
  have sz_el_102 : h0.size ≤ el_102 := Nat.le_trans (Keep.refl h0 [r0]).1 P102_1
  have ZZ103 : n0 ≤ T102.heap.size := Nat.le_trans Z0 P102_0.1
  have KK104 : Keep h0 T102.heap [r0] := Keep.trans (Keep.refl h0 [r0]) P102_0 (allS (Or.inl (List.mem_of_getElem? (i := 0) rfl)) all0)
  obtain ⟨fs, hr, hrun, hended, hW, hsame⟩ := X102.leave (v := some (.ref el_102)) (fun h => by rw [Bd.returns] at h; cases h)
  refine ⟨_, _, pre0 _ ?_, hrun, hended, _, _, rfl, ?_, ⟨_, rfl⟩, hW, hsame.mono (by decide) (by decide)⟩
  · show own_S p e below s₁ m 0 #[oR r0] [] _
    refine XS.aloadN X0.here hx rfl (hb hby d11_0) rfl rfl ?_
    refine XS.aloadN X0.here hx rfl (hb hby d11_1) rfl rfl ?_
    show own_S p e below s₁ m 2 _ [(.ref r0), (.ref r0)] _
    refine st101 _ ?_
    show own_S p e below T101 m 5 _ [(.int 0), (.ref r0)] _
    refine XS.iconst X101.here hx rfl (hb hby d11_5) ?_
    show own_S p e below T101 m 6 _ [(.int 1), (.int 0), (.ref r0)] _
    refine XS.iadd X101.here hx rfl (hb hby d11_6) rfl ?_
    show own_S p e below T101 m 7 _ [(.int ((0 : Int32) + (1 : Int32))), (.ref r0)] _
    refine reI (by decide : ((0 : Int32) + (1 : Int32)) = (1 : Int32)) ?_
    show own_S p e below T101 m 7 _ [(.int 1), (.ref r0)] _
    refine st102.trans ?_
    show own_S p e below T102 m 10 #[oR r0] [(.ref el_102)] _
    exact retOut X102 hx Bd.returns rfl (Or.inr (Or.inr (Or.inr (Or.inr ⟨rfl, rfl, rfl⟩)))) (hb hby d11_10) hr
  · show Qm11 Z r0 wM de kde h0 n0 _ T102.heap _
    exact ⟨el_102, kel_102, rfl, N102, KK104, sz_el_102, P102_2, P102_3, P102_4, P102_5, P102_6, P102_7⟩
theorem pd4 : parseMethodDescriptor "()[Ljava/lang/Object;" = some ⟨[], some (.array (.object kOB))⟩ := by decide +kernel
theorem own_insKeep {Z : State} {h h' : Heap} {a : Addr} {C : String} {ws : List Addr} (F : Ins Z h a C true) (K : Keep h h' ws) : Ins Z h' a C true := by
  obtain ⟨c, t, h1, h2, h3⟩ := F
  obtain ⟨c', g1, g2, g3, -⟩ := K.2.2 _ _ h1
  exact ⟨c', t, g1, h2, by rw [g2, g3]; exact h3⟩
theorem d10_0 : decode k10 0 = .ok (.iload_n 3, 1) := by decide +kernel
theorem d10_1 : decode k10 1 = .ok (.aload_n 2, 1) := by decide +kernel
theorem d10_2 : decode k10 2 = .ok (.arraylength, 1) := by decide +kernel
theorem d10_3 : decode k10 3 = .ok (.if_icmp .ne 8, 3) := by decide +kernel
theorem d10_6 : decode k10 6 = .ok (.aload_n 0, 1) := by decide +kernel
theorem d10_7 : decode k10 7 = .ok (.invokevirtual 129, 3) := by decide +kernel
theorem d10_10 : decode k10 10 = .ok (.astore_n 2, 1) := by decide +kernel
theorem d10_11 : decode k10 11 = .ok (.aload_n 2, 1) := by decide +kernel
theorem d10_12 : decode k10 12 = .ok (.iload_n 3, 1) := by decide +kernel
theorem d10_13 : decode k10 13 = .ok (.aload_n 1, 1) := by decide +kernel
theorem d10_14 : decode k10 14 = .ok (.aastore, 1) := by decide +kernel
theorem d10_15 : decode k10 15 = .ok (.aload_n 0, 1) := by decide +kernel
theorem d10_16 : decode k10 16 = .ok (.iload_n 3, 1) := by decide +kernel
theorem d10_17 : decode k10 17 = .ok (.iconst 1, 1) := by decide +kernel
theorem d10_18 : decode k10 18 = .ok (.iadd, 1) := by decide +kernel
theorem d10_19 : decode k10 19 = .ok (.putfield 48, 3) := by decide +kernel
theorem d10_22 : decode k10 22 = .ok (.return_, 1) := by decide +kernel
theorem ef_a3g (m : MethodId) (r0 : Addr) (r1 : Addr) (de : Addr) : entryFrame m #[(.ref r0), (.ref r1), (.ref de), (.int 0)] 4 = mkF m 0 #[oR r0, oR r1, oR de, oI 0] [] := by first | (simp [entryFrame, mkF, argsToLocals, Value.category]; done) | rfl
def Q_a3g (Z : State) (r0 : Addr) (r1 : Addr) (de : Addr) (wM : Value) (kde : ClassId) (h0 : Heap) (n0 : Nat) (v : Option Value) (h : Heap) (L : List Loc) : Prop := ∃ el : Addr, ∃ kel : ClassId, v = none ∧ Fr n0 L ∧ (Keep h0 h [r0]) ∧ (h0.size ≤ el) ∧ (Fld Z h r0 kAL "elementData" kOA (.ref el)) ∧ (Fld Z h r0 kAL "size" "I" (.int 1)) ∧ (Fld Z h r0 kABL "modCount" "I" wM) ∧ (Arv Z h el kel (.object kOB) (10 : Int32) [(.ref r1), .null, .null, .null] .null) ∧ (Exa Z h el kOA) ∧ (Ovr Z kel kOB)
set_option maxRecDepth 65536 in
set_option maxHeartbeats 40000000 in
theorem rm_a3g (l : Launch) (Z : State) (a0 : Array Value) (hw : own_HW Z a0) (ws : List Jvm.Cond) (r0 : Addr) (r1 : Addr) (de : Addr) (wM : Value) (kde : ClassId) (h0 : Heap) (n0 : Nat) (Z0 : n0 ≤ h0.size) (E_r0 : Exa Z h0 r0 kAL) (g_r0 : n0 ≤ r0) (F_elementData_r0 : Fld Z h0 r0 kAL "elementData" kOA (.ref de)) (F_size_r0 : Fld Z h0 r0 kAL "size" "I" (.int 0)) (F_modCount_r0 : Fld Z h0 r0 kABL "modCount" "I" wM) (hOld : Old Z n0 h0) (S_DEFAULTCAPACITY_EMPTY_ELEMENTDATA : Sta Z Z.heap kAL "DEFAULTCAPACITY_EMPTY_ELEMENTDATA" kOA (.ref de)) (V_de : Arv Z Z.heap de kde (.object kOB) (0 : Int32) [] .null) (E_de : Exa Z Z.heap de kOA) (I_r1 : Ins Z h0 r1 kOB true) :
    MetFree l (⟨kAL, "add", "(Ljava/lang/Object;[Ljava/lang/Object;I)V"⟩ : MethodName) (head1 (Jvm.Cond.code (⟨kAL, "add", "(Ljava/lang/Object;[Ljava/lang/Object;I)V"⟩ : MethodName) jdk_38_method_24_code 4 none :: ws) ({ frames := 3, cells := 1, slots := 10, locals := 41 } : Room)) (fun a U => a = #[(.ref r0), (.ref r1), (.ref de), (.int 0)] ∧ Z.Warmed39 U.vm ∧ U.heap = h0) (fun _ _ _ _ _ => True) (fun _ U o U' => ∃ v L, o = .returned v ∧ Q_a3g Z r0 r1 de wM kde h0 n0 v U'.heap L ∧ FrameEnd U o U' L ({ frames := 3, cells := 1, slots := 10, locals := 41 } : Room).cells ({ frames := 3, cells := 1, slots := 10, locals := 41 } : Room).slots) := by
  refine MetFree.of_bodySF (plainFor_of_name pn2) hisR ?_
  intro p e s m args below meth c s₁ Bd hml0 hP hK
  obtain ⟨rfl, hZ, hh⟩ := hP
  have hx := Bd.exec
  have hby := Bd.bytes
  have hml : c.maxLocals = 4 := hml0
  have hown : s.vm.findClass kAL = some m.cls := findClass_of_methodNamed Bd.named
  have hnm := (name_of_methodNamed Bd.named Bd.method).1
  have X0 : Stand p l e ({ frames := 3, cells := 1, slots := 10, locals := 41 } : Room) s m #[(.ref r0), (.ref r1), (.ref de), (.int 0)] below meth c s₁ [] 0 0 := Stand.of_body Bd
  have e0 : s₁.heap = h0 := by rw [← hh, Bd.state]; rfl
  have N0 := Fr.nil n0
  have pre0 : ∀ t, Steps p.tables e below (s₁.setTop (mkF m 0 #[oR r0, oR r1, oR de, oI 0] [])) t → Steps p.tables e below (s₁.setTop (entryFrame m #[(.ref r0), (.ref r1), (.ref de), (.int 0)] 4)) t := fun t k => castTop (ef_a3g m r0 r1 de) k
  have Fz101 := (V_de.ext hOld.2)
  obtain ⟨cl102, Ar102, qk102, Sz102, Nz102, Hh102, Gg102⟩ := id Fz101
  obtain ⟨_, T103, L103, X103, hQ103, st103⟩ := own_cP X0 hx hZ hw hown (b := r0) (W := 0) (rmm11 l Z a0 hw [] r0 wM de kde h0 n0 Z0 E_r0 g_r0 F_elementData_r0 F_size_r0 F_modCount_r0 hOld S_DEFAULTCAPACITY_EMPTY_ELEMENTDATA V_de E_de) (by decide) (by decide) (by decide) 67 rfl 68 rfl 69 rfl 71 rfl 6 rfl (own_w hw 70 rfl) e0 E_r0 (g := (mkF m 7 #[oR r0, oR r1, oR de, oI 0] [(.ref r0)])) rfl (by rw [hml]; rfl) (argsL := []) (rest := []) (lenOf pd4 rfl) rfl (Nat.le_of_eq rfl) (hb hby d10_7) rfl (cN := 1) rfl (by decide) (sN := 10) rfl (by decide)
  obtain ⟨el_103, kel_103, rfl, Nq103, P103_0, P103_1, P103_2, P103_3, P103_4, P103_5, P103_6, P103_7⟩ := hQ103
  have N103 := Fr.app N0 Nq103
  have g_el_103 : n0 ≤ el_103 := Nat.le_trans Z0 P103_1
  have sz_el_103 : h0.size ≤ el_103 := Nat.le_trans (Keep.refl h0 [r0]).1 P103_1
  have ZZ104 : n0 ≤ T103.heap.size := Nat.le_trans Z0 P103_0.1
  have KK105 : Keep h0 T103.heap [r0] := Keep.trans (Keep.refl h0 [r0]) P103_0 (allS (Or.inl (List.mem_of_getElem? (i := 0) rfl)) all0)
  obtain ⟨cl106, Ar106, qk106, Sz106, Nz106, Hh106, Gg106⟩ := id P103_5
  have hin107 : ¬ ((0 : Int32) < 0 ∨ cl106.slots.size ≤ ((0 : Int32)).toNatClampNeg) := inb_of Sz106 ⟨by decide, by decide⟩
  have Fc108 := (own_insKeep I_r1 P103_0)
  obtain ⟨T109, h109, X109, e109, W109, st109⟩ := stR X103 hx hZ rfl Ar106 (j := (0 : Int32)) hin107 rfl (Sto.ofV Ar106 qk106 P103_7 Fc108) (g := (mkF m 14 #[oR r0, oR r1, oR el_103, oI 0] [(.ref r1), (.int 0), (.ref el_103)])) rfl rfl (hb hby d10_14)
  have Va109 := Arv.set Ar106 qk106 Sz106 Nz106 Hh106 Gg106 rfl W109 0 rfl (Nat.le_of_ble_eq_true rfl)
  have N109 := Fr.snoc X109 N103 g_el_103
  have ZZ110 : n0 ≤ h109.size := Nat.le_trans ZZ104 (Nat.le_of_eq W109.size.symm)
  have KK111 : Keep h0 h109 [r0] := KK105.wr W109 (Or.inr sz_el_103)
  have Fc112 := ((E_r0.keep P103_0).wr W109)
  have nq113 : r0 ≠ el_103 := (ne_exa Fc112 (P103_6.wr W109) (by decide))
  have Fc114 := (P103_3.other W109 (Or.inl nq113))
  obtain ⟨T115, h115, X115, e115, W115, st115⟩ := putF X109 hx hZ hown (host := "") (Or.inl (own_w hw 60 rfl)) Via.refl e109 Fc114 Fc112 (Or.inl (own_w hw 61 rfl)) (own_w hw 5 rfl) (ty := .int) (by decide) rfl rfl (g := (mkF m 19 #[oR r0, oR r1, oR el_103, oI 0] [(.int 1), (.ref r0)])) rfl rfl (hb hby d10_19)
  have Fw115 := Fc114.same W115
  have N115 := Fr.snoc X115 N109 g_r0
  have ZZ116 : n0 ≤ h115.size := Nat.le_trans ZZ110 (Nat.le_of_eq W115.size.symm)
  have KK117 : Keep h0 h115 [r0] := KK111.wr W115 (Or.inl (List.mem_of_getElem? (i := 0) rfl))
  obtain ⟨fs, hr, hrun, hended, hW, hsame⟩ := X115.leave (v := none) (fun _ => rfl)
  refine ⟨_, _, pre0 _ ?_, hrun, hended, _, _, rfl, ?_, ⟨_, rfl⟩, hW, hsame.mono (by decide) (by decide)⟩
  · show own_S p e below s₁ m 0 #[oR r0, oR r1, oR de, oI 0] [] _
    refine XS.iloadN X0.here hx rfl (hb hby d10_0) rfl ?_
    refine XS.aloadN X0.here hx rfl (hb hby d10_1) rfl rfl ?_
    show own_S p e below s₁ m 2 _ [(.ref de), (.int 0)] _
    refine X0.arraylength hx (by rw [e0]; exact Ar102.1) (State.isArrayOf_alike hZ.alike Ar102.2.1) (g := (mkF m 2 #[oR r0, oR r1, oR de, oI 0] [(.ref de), (.int 0)])) rfl rfl (hb hby d10_2) _ ?_
    rw [len_of Sz102 Nz102]
    show own_S p e below s₁ m 3 _ [(.int 0), (.int 0)] _
    refine XS.icmpNo X0.here hx rfl (hb hby d10_3) rfl (teq (by decide : (0 : Int32) = (0 : Int32))).2 ?_
    refine XS.aloadN X0.here hx rfl (hb hby d10_6) rfl rfl ?_
    show own_S p e below s₁ m 7 _ [(.ref r0)] _
    refine st103.trans ?_
    show own_S p e below T103 m 10 _ [(.ref el_103)] _
    refine XS.astoreN X103.here hx rfl (hb hby d10_10) rfl rfl (l' := #[oR r0, oR r1, oR el_103, oI 0]) rfl ?_
    refine XS.aloadN X103.here hx rfl (hb hby d10_11) rfl rfl ?_
    refine XS.iloadN X103.here hx rfl (hb hby d10_12) rfl ?_
    refine XS.aloadN X103.here hx rfl (hb hby d10_13) rfl rfl ?_
    show own_S p e below T103 m 14 _ [(.ref r1), (.int 0), (.ref el_103)] _
    refine st109 _ ?_
    show own_S p e below T109 m 15 _ [] _
    refine XS.aloadN X109.here hx rfl (hb hby d10_15) rfl rfl ?_
    refine XS.iloadN X109.here hx rfl (hb hby d10_16) rfl ?_
    refine XS.iconst X109.here hx rfl (hb hby d10_17) ?_
    show own_S p e below T109 m 18 #[oR r0, oR r1, oR el_103, oI 0] [(.int 1), (.int 0), (.ref r0)] _
    refine XS.iadd X109.here hx rfl (hb hby d10_18) rfl ?_
    show own_S p e below T109 m 19 _ [(.int ((0 : Int32) + (1 : Int32))), (.ref r0)] _
    refine reI (by decide : ((0 : Int32) + (1 : Int32)) = (1 : Int32)) ?_
    show own_S p e below T109 m 19 _ [(.int 1), (.ref r0)] _
    refine st115 _ ?_
    show own_S p e below T115 m 22 _ [] _
    exact X115.returnOut hx Bd.returns (hb hby d10_22) hr
  · show Q_a3g Z r0 r1 de wM kde h0 n0 _ T115.heap _
    rw [e115]
    exact ⟨el_103, kel_103, rfl, N115, KK117, sz_el_103, ((P103_2.other W109 (Or.inl nq113)).other W115 (Or.inr (Ne.symm (sn2 hw)))), Fw115, ((P103_4.other W109 (Or.inl nq113)).other W115 (Or.inr (Ne.symm (sn1 hw)))), (Va109.other W115 (Ne.symm nq113)), ((P103_6.wr W109).wr W115), P103_7⟩
theorem pd5 : parseMethodDescriptor "(Ljava/lang/Object;[Ljava/lang/Object;I)V" = some ⟨[(.object kOB), (.array (.object kOB)), .int], none⟩ := by decide +kernel
theorem d9_0 : decode k9 0 = .ok (.aload_n 0, 1) := by decide +kernel
theorem d9_1 : decode k9 1 = .ok (.dup, 1) := by decide +kernel
theorem d9_2 : decode k9 2 = .ok (.getfield 63, 3) := by decide +kernel
theorem d9_5 : decode k9 5 = .ok (.iconst 1, 1) := by decide +kernel
theorem d9_6 : decode k9 6 = .ok (.iadd, 1) := by decide +kernel
theorem d9_7 : decode k9 7 = .ok (.putfield 63, 3) := by decide +kernel
theorem d9_10 : decode k9 10 = .ok (.aload_n 0, 1) := by decide +kernel
theorem d9_11 : decode k9 11 = .ok (.aload_n 1, 1) := by decide +kernel
theorem d9_12 : decode k9 12 = .ok (.aload_n 0, 1) := by decide +kernel
theorem d9_13 : decode k9 13 = .ok (.getfield 9, 3) := by decide +kernel
theorem d9_16 : decode k9 16 = .ok (.aload_n 0, 1) := by decide +kernel
theorem d9_17 : decode k9 17 = .ok (.getfield 48, 3) := by decide +kernel
theorem d9_20 : decode k9 20 = .ok (.invokevirtual 131, 3) := by decide +kernel
theorem d9_23 : decode k9 23 = .ok (.iconst 1, 1) := by decide +kernel
theorem d9_24 : decode k9 24 = .ok (.ireturn, 1) := by decide +kernel
theorem ef_a1g (m : MethodId) (r0 : Addr) (r1 : Addr) : entryFrame m #[(.ref r0), (.ref r1)] 2 = mkF m 0 #[oR r0, oR r1] [] := by first | (simp [entryFrame, mkF, argsToLocals, Value.category]; done) | rfl
def Q_a1g (Z : State) (r0 : Addr) (r1 : Addr) (mc : Int32) (de : Addr) (kde : ClassId) (h0 : Heap) (n0 : Nat) (v : Option Value) (h : Heap) (L : List Loc) : Prop := ∃ el : Addr, ∃ kel : ClassId, v = some (.int 1) ∧ Fr n0 L ∧ (Keep h0 h [r0]) ∧ (h0.size ≤ el) ∧ (Fld Z h r0 kAL "elementData" kOA (.ref el)) ∧ (Fld Z h r0 kAL "size" "I" (.int 1)) ∧ (Fld Z h r0 kABL "modCount" "I" (.int (mc + (1 : Int32)))) ∧ (Arv Z h el kel (.object kOB) (10 : Int32) [(.ref r1), .null, .null, .null] .null) ∧ (Exa Z h el kOA) ∧ (Ovr Z kel kOB)
set_option maxRecDepth 65536 in
set_option maxHeartbeats 40000000 in
theorem rm_a1g (l : Launch) (Z : State) (a0 : Array Value) (hw : own_HW Z a0) (ws : List Jvm.Cond) (r0 : Addr) (r1 : Addr) (mc : Int32) (de : Addr) (kde : ClassId) (h0 : Heap) (n0 : Nat) (Z0 : n0 ≤ h0.size) (E_r0 : Exa Z h0 r0 kAL) (g_r0 : n0 ≤ r0) (F_elementData_r0 : Fld Z h0 r0 kAL "elementData" kOA (.ref de)) (F_size_r0 : Fld Z h0 r0 kAL "size" "I" (.int 0)) (F_modCount_r0 : Fld Z h0 r0 kABL "modCount" "I" (.int mc)) (hOld : Old Z n0 h0) (S_DEFAULTCAPACITY_EMPTY_ELEMENTDATA : Sta Z Z.heap kAL "DEFAULTCAPACITY_EMPTY_ELEMENTDATA" kOA (.ref de)) (V_de : Arv Z Z.heap de kde (.object kOB) (0 : Int32) [] .null) (E_de : Exa Z Z.heap de kOA) (I_r1 : Ins Z h0 r1 kOB true) :
    MetFree l (⟨kAL, "add", "(Ljava/lang/Object;)Z"⟩ : MethodName) (head1 (Jvm.Cond.code (⟨kAL, "add", "(Ljava/lang/Object;)Z"⟩ : MethodName) jdk_38_method_25_code 2 (some .boolean) :: ws) ({ frames := 4, cells := 1, slots := 10, locals := 56 } : Room)) (fun a U => a = #[(.ref r0), (.ref r1)] ∧ Z.Warmed39 U.vm ∧ U.heap = h0) (fun _ _ _ _ _ => True) (fun _ U o U' => ∃ v L, o = .returned v ∧ Q_a1g Z r0 r1 mc de kde h0 n0 v U'.heap L ∧ FrameEnd U o U' L ({ frames := 4, cells := 1, slots := 10, locals := 56 } : Room).cells ({ frames := 4, cells := 1, slots := 10, locals := 56 } : Room).slots) := by
  refine MetFree.of_bodySF (plainFor_of_name pn2) hisR ?_
  intro p e s m args below meth c s₁ Bd hml0 hP hK
  obtain ⟨rfl, hZ, hh⟩ := hP
  have hx := Bd.exec
  have hby := Bd.bytes
  have hml : c.maxLocals = 2 := hml0
  have hown : s.vm.findClass kAL = some m.cls := findClass_of_methodNamed Bd.named
  have hnm := (name_of_methodNamed Bd.named Bd.method).1
  have X0 : Stand p l e ({ frames := 4, cells := 1, slots := 10, locals := 56 } : Room) s m #[(.ref r0), (.ref r1)] below meth c s₁ [] 0 0 := Stand.of_body Bd
  have e0 : s₁.heap = h0 := by rw [← hh, Bd.state]; rfl
  have N0 := Fr.nil n0
  have pre0 : ∀ t, Steps p.tables e below (s₁.setTop (mkF m 0 #[oR r0, oR r1] [])) t → Steps p.tables e below (s₁.setTop (entryFrame m #[(.ref r0), (.ref r1)] 2)) t := fun t k => castTop (ef_a1g m r0 r1) k
  obtain ⟨T101, X101, e101, st101⟩ := getF X0 hx hZ hown (host := "") (Or.inl (own_w hw 58 rfl)) (Via.of (own_w hw 59 rfl)) e0 F_modCount_r0 (g := (mkF m 2 #[oR r0, oR r1] [(.ref r0), (.ref r0)])) rfl rfl (hb hby d9_2)
  obtain ⟨T102, h102, X102, e102, W102, st102⟩ := putF X101 hx hZ hown (host := "") (Or.inl (own_w hw 58 rfl)) (Via.of (own_w hw 59 rfl)) e101 F_modCount_r0 E_r0 (Or.inl (own_w hw 26 rfl)) (own_w hw 5 rfl) (ty := .int) (by decide) rfl rfl (g := (mkF m 7 #[oR r0, oR r1] [(.int (mc + (1 : Int32))), (.ref r0)])) rfl rfl (hb hby d9_7)
  have Fw102 := F_modCount_r0.same W102
  have N102 := Fr.snoc X102 N0 g_r0
  have ZZ103 : n0 ≤ h102.size := Nat.le_trans Z0 (Nat.le_of_eq W102.size.symm)
  have KK104 : Keep h0 h102 [r0] := (Keep.refl h0 [r0]).wr W102 (Or.inl (List.mem_of_getElem? (i := 0) rfl))
  have Fc105 := (F_elementData_r0.other W102 (Or.inr (sn0 hw)))
  obtain ⟨T106, X106, e106, st106⟩ := getF X102 hx hZ hown (host := "") (Or.inl (own_w hw 28 rfl)) Via.refl e102 Fc105 (g := (mkF m 13 #[oR r0, oR r1] [(.ref r0), (.ref r1), (.ref r0)])) rfl rfl (hb hby d9_13)
  have Fc107 := (F_size_r0.other W102 (Or.inr (sn1 hw)))
  obtain ⟨T108, X108, e108, st108⟩ := getF X106 hx hZ hown (host := "") (Or.inl (own_w hw 60 rfl)) Via.refl e106 Fc107 (g := (mkF m 17 #[oR r0, oR r1] [(.ref r0), (.ref de), (.ref r1), (.ref r0)])) rfl rfl (hb hby d9_17)
  obtain ⟨_, T109, L109, X109, hQ109, st109⟩ := own_cP X108 hx hZ hw hown (b := r0) (W := 0) (rm_a3g l Z a0 hw [] r0 r1 de (.int (mc + (1 : Int32))) kde h102 n0 ZZ103 (E_r0.wr W102) g_r0 Fc105 Fc107 Fw102 (hOld.wr W102 g_r0) S_DEFAULTCAPACITY_EMPTY_ELEMENTDATA V_de E_de (I_r1.wr W102)) (by decide) (by decide) (by decide) 62 rfl 63 rfl 64 rfl 66 rfl 6 rfl (own_w hw 65 rfl) e108 (E_r0.wr W102) (g := (mkF m 20 #[oR r0, oR r1] [(.int 0), (.ref de), (.ref r1), (.ref r0)])) rfl (by rw [hml]; rfl) (argsL := [(.ref r1), (.ref de), (.int 0)]) (rest := []) (lenOf pd5 rfl) rfl (Nat.le_of_eq rfl) (hb hby d9_20) rfl (cN := 1) rfl (by decide) (sN := 10) rfl (by decide)
  obtain ⟨el_109, kel_109, rfl, Nq109, P109_0, P109_1, P109_2, P109_3, P109_4, P109_5, P109_6, P109_7⟩ := hQ109
  have N109 := Fr.app N102 Nq109
  have g_el_109 : n0 ≤ el_109 := Nat.le_trans ZZ103 P109_1
  have sz_el_109 : h0.size ≤ el_109 := Nat.le_trans KK104.1 P109_1
  have ZZ110 : n0 ≤ T109.heap.size := Nat.le_trans ZZ103 P109_0.1
  have KK111 : Keep h0 T109.heap [r0] := Keep.trans KK104 P109_0 (allS (Or.inl (List.mem_of_getElem? (i := 0) rfl)) all0)
  obtain ⟨fs, hr, hrun, hended, hW, hsame⟩ := X109.leave (v := some (.int 1)) (fun h => by rw [Bd.returns] at h; cases h)
  refine ⟨_, _, pre0 _ ?_, hrun, hended, _, _, rfl, ?_, ⟨_, rfl⟩, hW, hsame.mono (by decide) (by decide)⟩
  · show own_S p e below s₁ m 0 #[oR r0, oR r1] [] _
    refine XS.aloadN X0.here hx rfl (hb hby d9_0) rfl rfl ?_
    refine XS.dup X0.here hx rfl (hb hby d9_1) rfl rfl ?_
    show own_S p e below s₁ m 2 _ [(.ref r0), (.ref r0)] _
    refine st101 _ ?_
    show own_S p e below T101 m 5 _ [(.int mc), (.ref r0)] _
    refine XS.iconst X101.here hx rfl (hb hby d9_5) ?_
    show own_S p e below T101 m 6 _ [(.int 1), (.int mc), (.ref r0)] _
    refine XS.iadd X101.here hx rfl (hb hby d9_6) rfl ?_
    show own_S p e below T101 m 7 _ [(.int (mc + (1 : Int32))), (.ref r0)] _
    refine st102 _ ?_
    show own_S p e below T102 m 10 _ [] _
    refine XS.aloadN X102.here hx rfl (hb hby d9_10) rfl rfl ?_
    refine XS.aloadN X102.here hx rfl (hb hby d9_11) rfl rfl ?_
    refine XS.aloadN X102.here hx rfl (hb hby d9_12) rfl rfl ?_
    show own_S p e below T102 m 13 _ [(.ref r0), (.ref r1), (.ref r0)] _
    refine st106 _ ?_
    show own_S p e below T106 m 16 _ [(.ref de), (.ref r1), (.ref r0)] _
    refine XS.aloadN X106.here hx rfl (hb hby d9_16) rfl rfl ?_
    show own_S p e below T106 m 17 _ [(.ref r0), (.ref de), (.ref r1), (.ref r0)] _
    refine st108 _ ?_
    show own_S p e below T108 m 20 _ [(.int 0), (.ref de), (.ref r1), (.ref r0)] _
    refine st109.trans ?_
    show own_S p e below T109 m 23 _ [] _
    refine XS.iconst X109.here hx rfl (hb hby d9_23) ?_
    show own_S p e below T109 m 24 #[oR r0, oR r1] [(.int 1)] _
    exact retN X109 hx (t := .boolean) Bd.returns (by simp) (hb hby d9_24) hr
  · show Q_a1g Z r0 r1 mc de kde h0 n0 _ T109.heap _
    exact ⟨el_109, kel_109, rfl, N109, KK111, sz_el_109, P109_2, P109_3, P109_4, P109_5, P109_6, P109_7⟩
theorem ef_a3n (m : MethodId) (r0 : Addr) (r1 : Addr) (el : Addr) (n : Int32) : entryFrame m #[(.ref r0), (.ref r1), (.ref el), (.int n)] 4 = mkF m 0 #[oR r0, oR r1, oR el, oI n] [] := by first | (simp [entryFrame, mkF, argsToLocals, Value.category]; done) | rfl
def Q_a3n (Z : State) (r0 : Addr) (r1 : Addr) (el : Addr) (n : Int32) (wM : Value) (kel : ClassId) (cap : Int32) (ci : Nat) (vs : List Value) (h0 : Heap) (n0 : Nat) (v : Option Value) (h : Heap) (L : List Loc) : Prop := v = none ∧ Fr n0 L ∧ (Keep h0 h [r0, el]) ∧ (Fld Z h r0 kAL "elementData" kOA (.ref el)) ∧ (Fld Z h r0 kAL "size" "I" (.int (n + (1 : Int32)))) ∧ (Fld Z h r0 kABL "modCount" "I" wM) ∧ (Arv Z h el kel (.object kOB) cap ((vs).set ci (.ref r1)) .null)
set_option maxRecDepth 65536 in
set_option maxHeartbeats 40000000 in
theorem rm_a3n (l : Launch) (Z : State) (a0 : Array Value) (hw : own_HW Z a0) (ws : List Jvm.Cond) (r0 : Addr) (r1 : Addr) (el : Addr) (n : Int32) (wM : Value) (kel : ClassId) (cap : Int32) (ci : Nat) (vs : List Value) (h0 : Heap) (n0 : Nat) (Z0 : n0 ≤ h0.size) (E_r0 : Exa Z h0 r0 kAL) (g_r0 : n0 ≤ r0) (g_el : n0 ≤ el) (F_elementData_r0 : Fld Z h0 r0 kAL "elementData" kOA (.ref el)) (F_size_r0 : Fld Z h0 r0 kAL "size" "I" (.int n)) (F_modCount_r0 : Fld Z h0 r0 kABL "modCount" "I" wM) (V_el : Arv Z h0 el kel (.object kOB) cap vs .null) (E_el : Exa Z h0 el kOA) (O_el : Ovr Z kel kOB) (I_r1 : Ins Z h0 r1 kOB true) (hne : ¬ (n = cap)) (hin : ¬ n < (0 : Int32) ∧ n < cap) (hci : n.toNatClampNeg = ci) (hl : ci < vs.length) :
    MetFree l (⟨kAL, "add", "(Ljava/lang/Object;[Ljava/lang/Object;I)V"⟩ : MethodName) (head1 (Jvm.Cond.code (⟨kAL, "add", "(Ljava/lang/Object;[Ljava/lang/Object;I)V"⟩ : MethodName) jdk_38_method_24_code 4 none :: ws) ({ frames := 0, cells := 0, slots := 0, locals := 0 } : Room)) (fun a U => a = #[(.ref r0), (.ref r1), (.ref el), (.int n)] ∧ Z.Warmed39 U.vm ∧ U.heap = h0) (fun _ _ _ _ _ => True) (fun _ U o U' => ∃ v L, o = .returned v ∧ Q_a3n Z r0 r1 el n wM kel cap ci vs h0 n0 v U'.heap L ∧ FrameEnd U o U' L ({ frames := 0, cells := 0, slots := 0, locals := 0 } : Room).cells ({ frames := 0, cells := 0, slots := 0, locals := 0 } : Room).slots) := by
  refine MetFree.of_bodySF (plainFor_of_name pn2) hisR ?_
  intro p e s m args below meth c s₁ Bd hml0 hP hK
  obtain ⟨rfl, hZ, hh⟩ := hP
  have hx := Bd.exec
  have hby := Bd.bytes
  have hml : c.maxLocals = 4 := hml0
  have hown : s.vm.findClass kAL = some m.cls := findClass_of_methodNamed Bd.named
  have hnm := (name_of_methodNamed Bd.named Bd.method).1
  have X0 : Stand p l e ({ frames := 0, cells := 0, slots := 0, locals := 0 } : Room) s m #[(.ref r0), (.ref r1), (.ref el), (.int n)] below meth c s₁ [] 0 0 := Stand.of_body Bd
  have e0 : s₁.heap = h0 := by rw [← hh, Bd.state]; rfl
  have N0 := Fr.nil n0
  have pre0 : ∀ t, Steps p.tables e below (s₁.setTop (mkF m 0 #[oR r0, oR r1, oR el, oI n] [])) t → Steps p.tables e below (s₁.setTop (entryFrame m #[(.ref r0), (.ref r1), (.ref el), (.int n)] 4)) t := fun t k => castTop (ef_a3n m r0 r1 el n) k
  obtain ⟨cl101, Ar101, qk101, Sz101, Nz101, Hh101, Gg101⟩ := id V_el
  have hin102 : ¬ (n < 0 ∨ cl101.slots.size ≤ (n).toNatClampNeg) := inb_of Sz101 hin
  obtain ⟨T103, h103, X103, e103, W103, st103⟩ := stR X0 hx hZ e0 Ar101 (j := n) hin102 rfl (Sto.ofV Ar101 qk101 O_el I_r1) (g := (mkF m 14 #[oR r0, oR r1, oR el, oI n] [(.ref r1), (.int n), (.ref el)])) rfl rfl (hb hby d10_14)
  have Va103 := Arv.set Ar101 qk101 Sz101 Nz101 Hh101 Gg101 rfl W103 ci hci hl
  have N103 := Fr.snoc X103 N0 g_el
  have ZZ104 : n0 ≤ h103.size := Nat.le_trans Z0 (Nat.le_of_eq W103.size.symm)
  have KK105 : Keep h0 h103 [r0, el] := (Keep.refl h0 [r0, el]).wr W103 (Or.inl (List.mem_of_getElem? (i := 1) rfl))
  have nq106 : r0 ≠ el := (ne_exa (E_r0.wr W103) (E_el.wr W103) (by decide))
  have Fc107 := (F_size_r0.other W103 (Or.inl nq106))
  obtain ⟨T108, h108, X108, e108, W108, st108⟩ := putF X103 hx hZ hown (host := "") (Or.inl (own_w hw 60 rfl)) Via.refl e103 Fc107 (E_r0.wr W103) (Or.inl (own_w hw 61 rfl)) (own_w hw 5 rfl) (ty := .int) (by decide) rfl rfl (g := (mkF m 19 #[oR r0, oR r1, oR el, oI n] [(.int (n + (1 : Int32))), (.ref r0)])) rfl rfl (hb hby d10_19)
  have Fw108 := Fc107.same W108
  have N108 := Fr.snoc X108 N103 g_r0
  have ZZ109 : n0 ≤ h108.size := Nat.le_trans ZZ104 (Nat.le_of_eq W108.size.symm)
  have KK110 : Keep h0 h108 [r0, el] := KK105.wr W108 (Or.inl (List.mem_of_getElem? (i := 0) rfl))
  obtain ⟨fs, hr, hrun, hended, hW, hsame⟩ := X108.leave (v := none) (fun _ => rfl)
  refine ⟨_, _, pre0 _ ?_, hrun, hended, _, _, rfl, ?_, ⟨_, rfl⟩, hW, hsame.mono (by decide) (by decide)⟩
  · show own_S p e below s₁ m 0 #[oR r0, oR r1, oR el, oI n] [] _
    refine XS.iloadN X0.here hx rfl (hb hby d10_0) rfl ?_
    refine XS.aloadN X0.here hx rfl (hb hby d10_1) rfl rfl ?_
    show own_S p e below s₁ m 2 _ [(.ref el), (.int n)] _
    refine X0.arraylength hx (by rw [e0]; exact Ar101.1) (State.isArrayOf_alike hZ.alike Ar101.2.1) (g := (mkF m 2 #[oR r0, oR r1, oR el, oI n] [(.ref el), (.int n)])) rfl rfl (hb hby d10_2) _ ?_
    rw [len_of Sz101 Nz101]
    show own_S p e below s₁ m 3 _ [(.int cap), (.int n)] _
    refine XS.icmpYes X0.here hx rfl (pc0 := 3) (pc' := 11) rfl (hb hby d10_3) rfl (feq (hne : ¬ (n = cap))).2 (by decide) (by decide) ?_
    refine XS.aloadN X0.here hx rfl (hb hby d10_11) rfl rfl ?_
    refine XS.iloadN X0.here hx rfl (hb hby d10_12) rfl ?_
    refine XS.aloadN X0.here hx rfl (hb hby d10_13) rfl rfl ?_
    show own_S p e below s₁ m 14 #[oR r0, oR r1, oR el, oI n] [(.ref r1), (.int n), (.ref el)] _
    refine st103 _ ?_
    show own_S p e below T103 m 15 _ [] _
    refine XS.aloadN X103.here hx rfl (hb hby d10_15) rfl rfl ?_
    refine XS.iloadN X103.here hx rfl (hb hby d10_16) rfl ?_
    refine XS.iconst X103.here hx rfl (hb hby d10_17) ?_
    show own_S p e below T103 m 18 _ [(.int 1), (.int n), (.ref r0)] _
    refine XS.iadd X103.here hx rfl (hb hby d10_18) rfl ?_
    show own_S p e below T103 m 19 _ [(.int (n + (1 : Int32))), (.ref r0)] _
    refine st108 _ ?_
    show own_S p e below T108 m 22 _ [] _
    exact X108.returnOut hx Bd.returns (hb hby d10_22) hr
  · show Q_a3n Z r0 r1 el n wM kel cap ci vs h0 n0 _ T108.heap _
    rw [e108]
    exact ⟨rfl, N108, KK110, ((F_elementData_r0.other W103 (Or.inl nq106)).other W108 (Or.inr (Ne.symm (sn2 hw)))), Fw108, ((F_modCount_r0.other W103 (Or.inl nq106)).other W108 (Or.inr (Ne.symm (sn1 hw)))), (Va103.other W108 (Ne.symm nq106))⟩
theorem ef_a1n (m : MethodId) (r0 : Addr) (r1 : Addr) : entryFrame m #[(.ref r0), (.ref r1)] 2 = mkF m 0 #[oR r0, oR r1] [] := by first | (simp [entryFrame, mkF, argsToLocals, Value.category]; done) | rfl
def Q_a1n (Z : State) (r0 : Addr) (r1 : Addr) (mc : Int32) (el : Addr) (kel : ClassId) (n : Int32) (cap : Int32) (ci : Nat) (vs : List Value) (h0 : Heap) (n0 : Nat) (v : Option Value) (h : Heap) (L : List Loc) : Prop := v = some (.int 1) ∧ Fr n0 L ∧ (Keep h0 h [r0, el]) ∧ (Fld Z h r0 kAL "elementData" kOA (.ref el)) ∧ (Fld Z h r0 kAL "size" "I" (.int (n + (1 : Int32)))) ∧ (Fld Z h r0 kABL "modCount" "I" (.int (mc + (1 : Int32)))) ∧ (Arv Z h el kel (.object kOB) cap ((vs).set ci (.ref r1)) .null)
set_option maxRecDepth 65536 in
set_option maxHeartbeats 40000000 in
theorem rm_a1n (l : Launch) (Z : State) (a0 : Array Value) (hw : own_HW Z a0) (ws : List Jvm.Cond) (r0 : Addr) (r1 : Addr) (mc : Int32) (el : Addr) (kel : ClassId) (n : Int32) (cap : Int32) (ci : Nat) (vs : List Value) (h0 : Heap) (n0 : Nat) (Z0 : n0 ≤ h0.size) (E_r0 : Exa Z h0 r0 kAL) (g_r0 : n0 ≤ r0) (g_el : n0 ≤ el) (F_elementData_r0 : Fld Z h0 r0 kAL "elementData" kOA (.ref el)) (F_size_r0 : Fld Z h0 r0 kAL "size" "I" (.int n)) (F_modCount_r0 : Fld Z h0 r0 kABL "modCount" "I" (.int mc)) (V_el : Arv Z h0 el kel (.object kOB) cap vs .null) (E_el : Exa Z h0 el kOA) (O_el : Ovr Z kel kOB) (I_r1 : Ins Z h0 r1 kOB true) (hne : ¬ (n = cap)) (hin : ¬ n < (0 : Int32) ∧ n < cap) (hci : n.toNatClampNeg = ci) (hl : ci < vs.length) :
    MetFree l (⟨kAL, "add", "(Ljava/lang/Object;)Z"⟩ : MethodName) (head1 (Jvm.Cond.code (⟨kAL, "add", "(Ljava/lang/Object;)Z"⟩ : MethodName) jdk_38_method_25_code 2 (some .boolean) :: ws) ({ frames := 1, cells := 0, slots := 0, locals := 15 } : Room)) (fun a U => a = #[(.ref r0), (.ref r1)] ∧ Z.Warmed39 U.vm ∧ U.heap = h0) (fun _ _ _ _ _ => True) (fun _ U o U' => ∃ v L, o = .returned v ∧ Q_a1n Z r0 r1 mc el kel n cap ci vs h0 n0 v U'.heap L ∧ FrameEnd U o U' L ({ frames := 1, cells := 0, slots := 0, locals := 15 } : Room).cells ({ frames := 1, cells := 0, slots := 0, locals := 15 } : Room).slots) := by
  refine MetFree.of_bodySF (plainFor_of_name pn2) hisR ?_
  intro p e s m args below meth c s₁ Bd hml0 hP hK
  obtain ⟨rfl, hZ, hh⟩ := hP
  have hx := Bd.exec
  have hby := Bd.bytes
  have hml : c.maxLocals = 2 := hml0
  have hown : s.vm.findClass kAL = some m.cls := findClass_of_methodNamed Bd.named
  have hnm := (name_of_methodNamed Bd.named Bd.method).1
  have X0 : Stand p l e ({ frames := 1, cells := 0, slots := 0, locals := 15 } : Room) s m #[(.ref r0), (.ref r1)] below meth c s₁ [] 0 0 := Stand.of_body Bd
  have e0 : s₁.heap = h0 := by rw [← hh, Bd.state]; rfl
  have N0 := Fr.nil n0
  have pre0 : ∀ t, Steps p.tables e below (s₁.setTop (mkF m 0 #[oR r0, oR r1] [])) t → Steps p.tables e below (s₁.setTop (entryFrame m #[(.ref r0), (.ref r1)] 2)) t := fun t k => castTop (ef_a1n m r0 r1) k
  obtain ⟨T101, X101, e101, st101⟩ := getF X0 hx hZ hown (host := "") (Or.inl (own_w hw 58 rfl)) (Via.of (own_w hw 59 rfl)) e0 F_modCount_r0 (g := (mkF m 2 #[oR r0, oR r1] [(.ref r0), (.ref r0)])) rfl rfl (hb hby d9_2)
  obtain ⟨T102, h102, X102, e102, W102, st102⟩ := putF X101 hx hZ hown (host := "") (Or.inl (own_w hw 58 rfl)) (Via.of (own_w hw 59 rfl)) e101 F_modCount_r0 E_r0 (Or.inl (own_w hw 26 rfl)) (own_w hw 5 rfl) (ty := .int) (by decide) rfl rfl (g := (mkF m 7 #[oR r0, oR r1] [(.int (mc + (1 : Int32))), (.ref r0)])) rfl rfl (hb hby d9_7)
  have Fw102 := F_modCount_r0.same W102
  have N102 := Fr.snoc X102 N0 g_r0
  have ZZ103 : n0 ≤ h102.size := Nat.le_trans Z0 (Nat.le_of_eq W102.size.symm)
  have KK104 : Keep h0 h102 [r0, el] := (Keep.refl h0 [r0, el]).wr W102 (Or.inl (List.mem_of_getElem? (i := 0) rfl))
  have Fc105 := (F_elementData_r0.other W102 (Or.inr (sn0 hw)))
  obtain ⟨T106, X106, e106, st106⟩ := getF X102 hx hZ hown (host := "") (Or.inl (own_w hw 28 rfl)) Via.refl e102 Fc105 (g := (mkF m 13 #[oR r0, oR r1] [(.ref r0), (.ref r1), (.ref r0)])) rfl rfl (hb hby d9_13)
  have Fc107 := (F_size_r0.other W102 (Or.inr (sn1 hw)))
  obtain ⟨T108, X108, e108, st108⟩ := getF X106 hx hZ hown (host := "") (Or.inl (own_w hw 60 rfl)) Via.refl e106 Fc107 (g := (mkF m 17 #[oR r0, oR r1] [(.ref r0), (.ref el), (.ref r1), (.ref r0)])) rfl rfl (hb hby d9_17)
  have nq109 : el ≠ r0 := (ne_exa (E_el.wr W102) (E_r0.wr W102) (by decide))
  obtain ⟨_, T110, L110, X110, hQ110, st110⟩ := own_cP X108 hx hZ hw hown (b := r0) (W := 0) (rm_a3n l Z a0 hw [] r0 r1 el n (.int (mc + (1 : Int32))) kel cap ci vs h102 n0 ZZ103 (E_r0.wr W102) g_r0 g_el Fc105 Fc107 Fw102 (V_el.other W102 nq109) (E_el.wr W102) O_el (I_r1.wr W102) hne hin hci hl) (by decide) (by decide) (by decide) 62 rfl 63 rfl 64 rfl 66 rfl 6 rfl (own_w hw 65 rfl) e108 (E_r0.wr W102) (g := (mkF m 20 #[oR r0, oR r1] [(.int n), (.ref el), (.ref r1), (.ref r0)])) rfl (by rw [hml]; rfl) (argsL := [(.ref r1), (.ref el), (.int n)]) (rest := []) (lenOf pd5 rfl) rfl (Nat.le_of_eq rfl) (hb hby d9_20) rfl (cN := 0) rfl (by decide) (sN := 0) rfl (by decide)
  obtain ⟨rfl, Nq110, P110_0, P110_1, P110_2, P110_3, P110_4⟩ := hQ110
  have N110 := Fr.app N102 Nq110
  have ZZ111 : n0 ≤ T110.heap.size := Nat.le_trans ZZ103 P110_0.1
  have KK112 : Keep h0 T110.heap [r0, el] := Keep.trans KK104 P110_0 (allS (Or.inl (List.mem_of_getElem? (i := 0) rfl)) (allS (Or.inl (List.mem_of_getElem? (i := 1) rfl)) all0))
  obtain ⟨fs, hr, hrun, hended, hW, hsame⟩ := X110.leave (v := some (.int 1)) (fun h => by rw [Bd.returns] at h; cases h)
  refine ⟨_, _, pre0 _ ?_, hrun, hended, _, _, rfl, ?_, ⟨_, rfl⟩, hW, hsame.mono (by decide) (by decide)⟩
  · show own_S p e below s₁ m 0 #[oR r0, oR r1] [] _
    refine XS.aloadN X0.here hx rfl (hb hby d9_0) rfl rfl ?_
    refine XS.dup X0.here hx rfl (hb hby d9_1) rfl rfl ?_
    show own_S p e below s₁ m 2 _ [(.ref r0), (.ref r0)] _
    refine st101 _ ?_
    show own_S p e below T101 m 5 _ [(.int mc), (.ref r0)] _
    refine XS.iconst X101.here hx rfl (hb hby d9_5) ?_
    show own_S p e below T101 m 6 _ [(.int 1), (.int mc), (.ref r0)] _
    refine XS.iadd X101.here hx rfl (hb hby d9_6) rfl ?_
    show own_S p e below T101 m 7 _ [(.int (mc + (1 : Int32))), (.ref r0)] _
    refine st102 _ ?_
    show own_S p e below T102 m 10 _ [] _
    refine XS.aloadN X102.here hx rfl (hb hby d9_10) rfl rfl ?_
    refine XS.aloadN X102.here hx rfl (hb hby d9_11) rfl rfl ?_
    refine XS.aloadN X102.here hx rfl (hb hby d9_12) rfl rfl ?_
    show own_S p e below T102 m 13 _ [(.ref r0), (.ref r1), (.ref r0)] _
    refine st106 _ ?_
    show own_S p e below T106 m 16 _ [(.ref el), (.ref r1), (.ref r0)] _
    refine XS.aloadN X106.here hx rfl (hb hby d9_16) rfl rfl ?_
    show own_S p e below T106 m 17 _ [(.ref r0), (.ref el), (.ref r1), (.ref r0)] _
    refine st108 _ ?_
    show own_S p e below T108 m 20 _ [(.int n), (.ref el), (.ref r1), (.ref r0)] _
    refine st110.trans ?_
    show own_S p e below T110 m 23 _ [] _
    refine XS.iconst X110.here hx rfl (hb hby d9_23) ?_
    show own_S p e below T110 m 24 #[oR r0, oR r1] [(.int 1)] _
    exact retN X110 hx (t := .boolean) Bd.returns (by simp) (hb hby d9_24) hr
  · show Q_a1n Z r0 r1 mc el kel n cap ci vs h0 n0 _ T110.heap _
    exact ⟨rfl, N110, KK112, P110_1, P110_2, P110_3, P110_4⟩
theorem d17_0 : decode k17 0 = .ok (.aload_n 0, 1) := by decide +kernel
theorem d17_1 : decode k17 1 = .ok (.getfield 48, 3) := by decide +kernel
theorem d17_4 : decode k17 4 = .ok (.ifCond .ne 7, 3) := by decide +kernel
theorem d17_11 : decode k17 11 = .ok (.iconst 0, 1) := by decide +kernel
theorem d17_12 : decode k17 12 = .ok (.ireturn, 1) := by decide +kernel
theorem efm17 (m : MethodId) (r0 : Addr) : entryFrame m #[(.ref r0)] 1 = mkF m 0 #[oR r0] [] := by first | (simp [entryFrame, mkF, argsToLocals, Value.category]; done) | rfl
def Qm17 (Z : State) (r0 : Addr) (n : Int32) (h0 : Heap) (n0 : Nat) (v : Option Value) (h : Heap) (L : List Loc) : Prop := v = some (.int 0) ∧ Fr n0 L ∧ (h = h0)
set_option maxRecDepth 65536 in
set_option maxHeartbeats 40000000 in
theorem rmm17 (l : Launch) (Z : State) (a0 : Array Value) (hw : own_HW Z a0) (ws : List Jvm.Cond) (r0 : Addr) (n : Int32) (h0 : Heap) (n0 : Nat) (Z0 : n0 ≤ h0.size) (F_size_r0 : Fld Z h0 r0 kAL "size" "I" (.int n)) (hnz : ¬ (n = (0 : Int32))) :
    MetFree l (⟨kAL, "isEmpty", "()Z"⟩ : MethodName) (head1 (Jvm.Cond.code (⟨kAL, "isEmpty", "()Z"⟩ : MethodName) jdk_38_method_9_code 1 (some .boolean) :: ws) ({ frames := 0, cells := 0, slots := 0, locals := 0 } : Room)) (fun a U => a = #[(.ref r0)] ∧ Z.Warmed39 U.vm ∧ U.heap = h0) (fun _ _ _ _ _ => True) (fun _ U o U' => ∃ v L, o = .returned v ∧ Qm17 Z r0 n h0 n0 v U'.heap L ∧ FrameEnd U o U' L ({ frames := 0, cells := 0, slots := 0, locals := 0 } : Room).cells ({ frames := 0, cells := 0, slots := 0, locals := 0 } : Room).slots) := by
  refine MetFree.of_bodySF (plainFor_of_name pn2) hisR ?_
  intro p e s m args below meth c s₁ Bd hml0 hP hK
  obtain ⟨rfl, hZ, hh⟩ := hP
  have hx := Bd.exec
  have hby := Bd.bytes
  have hml : c.maxLocals = 1 := hml0
  have hown : s.vm.findClass kAL = some m.cls := findClass_of_methodNamed Bd.named
  have hnm := (name_of_methodNamed Bd.named Bd.method).1
  have X0 : Stand p l e ({ frames := 0, cells := 0, slots := 0, locals := 0 } : Room) s m #[(.ref r0)] below meth c s₁ [] 0 0 := Stand.of_body Bd
  have e0 : s₁.heap = h0 := by rw [← hh, Bd.state]; rfl
  have N0 := Fr.nil n0
  have pre0 : ∀ t, Steps p.tables e below (s₁.setTop (mkF m 0 #[oR r0] [])) t → Steps p.tables e below (s₁.setTop (entryFrame m #[(.ref r0)] 1)) t := fun t k => castTop (efm17 m r0) k
  obtain ⟨T101, X101, e101, st101⟩ := getF X0 hx hZ hown (host := "") (Or.inl (own_w hw 60 rfl)) Via.refl e0 F_size_r0 (g := (mkF m 1 #[oR r0] [(.ref r0)])) rfl rfl (hb hby d17_1)
  obtain ⟨fs, hr, hrun, hended, hW, hsame⟩ := X101.leave (v := some (.int 0)) (fun h => by rw [Bd.returns] at h; cases h)
  refine ⟨_, _, pre0 _ ?_, hrun, hended, _, _, rfl, ?_, ⟨_, rfl⟩, hW, hsame.mono (by decide) (by decide)⟩
  · show own_S p e below s₁ m 0 #[oR r0] [] _
    refine XS.aloadN X0.here hx rfl (hb hby d17_0) rfl rfl ?_
    show own_S p e below s₁ m 1 _ [(.ref r0)] _
    refine st101 _ ?_
    show own_S p e below T101 m 4 _ [(.int n)] _
    refine XS.ifYes X101.here hx rfl (pc0 := 4) (pc' := 11) rfl (hb hby d17_4) rfl ((if0 _ _).trans (feq (hnz : ¬ (n = (0 : Int32)))).2) (by decide) (by decide) ?_
    refine XS.iconst X101.here hx rfl (hb hby d17_11) ?_
    show own_S p e below T101 m 12 _ [(.int 0)] _
    exact retN X101 hx (t := .boolean) Bd.returns (by simp) (hb hby d17_12) hr
  · show Qm17 Z r0 n h0 n0 _ T101.heap _
    rw [e101]
    exact ⟨rfl, N0, rfl⟩
theorem d22_0 : decode jdk_38_method_8_code 0 = .ok (.aload_n 0, 1) := by decide +kernel
theorem d22_1 : decode jdk_38_method_8_code 1 = .ok (.getfield 48, 3) := by decide +kernel
theorem d22_4 : decode jdk_38_method_8_code 4 = .ok (.ireturn, 1) := by decide +kernel
theorem efm22 (m : MethodId) (r0 : Addr) : entryFrame m #[(.ref r0)] 1 = mkF m 0 #[oR r0] [] := by first | (simp [entryFrame, mkF, argsToLocals, Value.category]; done) | rfl
def Qm22 (Z : State) (r0 : Addr) (n : Int32) (h0 : Heap) (n0 : Nat) (v : Option Value) (h : Heap) (L : List Loc) : Prop := v = some (.int n) ∧ Fr n0 L ∧ (h = h0)
set_option maxRecDepth 65536 in
set_option maxHeartbeats 40000000 in
theorem rmm22 (l : Launch) (Z : State) (a0 : Array Value) (hw : own_HW Z a0) (ws : List Jvm.Cond) (r0 : Addr) (n : Int32) (h0 : Heap) (n0 : Nat) (Z0 : n0 ≤ h0.size) (F_size_r0 : Fld Z h0 r0 kAL "size" "I" (.int n)) :
    MetFree l (⟨kAL, "size", "()I"⟩ : MethodName) (head1 (Jvm.Cond.code (⟨kAL, "size", "()I"⟩ : MethodName) jdk_38_method_8_code 1 (some .int) :: ws) ({ frames := 0, cells := 0, slots := 0, locals := 0 } : Room)) (fun a U => a = #[(.ref r0)] ∧ Z.Warmed39 U.vm ∧ U.heap = h0) (fun _ _ _ _ _ => True) (fun _ U o U' => ∃ v L, o = .returned v ∧ Qm22 Z r0 n h0 n0 v U'.heap L ∧ FrameEnd U o U' L ({ frames := 0, cells := 0, slots := 0, locals := 0 } : Room).cells ({ frames := 0, cells := 0, slots := 0, locals := 0 } : Room).slots) := by
  refine MetFree.of_bodySF (plainFor_of_name pn2) hisR ?_
  intro p e s m args below meth c s₁ Bd hml0 hP hK
  obtain ⟨rfl, hZ, hh⟩ := hP
  have hx := Bd.exec
  have hby := Bd.bytes
  have hml : c.maxLocals = 1 := hml0
  have hown : s.vm.findClass kAL = some m.cls := findClass_of_methodNamed Bd.named
  have hnm := (name_of_methodNamed Bd.named Bd.method).1
  have X0 : Stand p l e ({ frames := 0, cells := 0, slots := 0, locals := 0 } : Room) s m #[(.ref r0)] below meth c s₁ [] 0 0 := Stand.of_body Bd
  have e0 : s₁.heap = h0 := by rw [← hh, Bd.state]; rfl
  have N0 := Fr.nil n0
  have pre0 : ∀ t, Steps p.tables e below (s₁.setTop (mkF m 0 #[oR r0] [])) t → Steps p.tables e below (s₁.setTop (entryFrame m #[(.ref r0)] 1)) t := fun t k => castTop (efm22 m r0) k
  obtain ⟨T101, X101, e101, st101⟩ := getF X0 hx hZ hown (host := "") (Or.inl (own_w hw 60 rfl)) Via.refl e0 F_size_r0 (g := (mkF m 1 #[oR r0] [(.ref r0)])) rfl rfl (hb hby d22_1)
  obtain ⟨fs, hr, hrun, hended, hW, hsame⟩ := X101.leave (v := some (.int n)) (fun h => by rw [Bd.returns] at h; cases h)
  refine ⟨_, _, pre0 _ ?_, hrun, hended, _, _, rfl, ?_, ⟨_, rfl⟩, hW, hsame.mono (by decide) (by decide)⟩
  · show own_S p e below s₁ m 0 #[oR r0] [] _
    refine XS.aloadN X0.here hx rfl (hb hby d22_0) rfl rfl ?_
    show own_S p e below s₁ m 1 _ [(.ref r0)] _
    refine st101 _ ?_
    show own_S p e below T101 m 4 _ [(.int n)] _
    exact retOut X101 hx Bd.returns rfl (Or.inl ⟨rfl, Or.inl rfl, _, rfl⟩) (hb hby d22_4) hr
  · show Qm22 Z r0 n h0 n0 _ T101.heap _
    rw [e101]
    exact ⟨rfl, N0, rfl⟩
theorem d20_0 : decode k20 0 = .ok (.iload_n 0, 1) := by decide +kernel
theorem d20_1 : decode k20 1 = .ok (.ifCond .lt 8, 3) := by decide +kernel
theorem d20_4 : decode k20 4 = .ok (.iload_n 0, 1) := by decide +kernel
theorem d20_5 : decode k20 5 = .ok (.iload_n 1, 1) := by decide +kernel
theorem d20_6 : decode k20 6 = .ok (.if_icmp .lt 10, 3) := by decide +kernel
theorem d20_16 : decode k20 16 = .ok (.iload_n 0, 1) := by decide +kernel
theorem d20_17 : decode k20 17 = .ok (.ireturn, 1) := by decide +kernel
theorem pn5 : plainName "jdk/internal/util/Preconditions" = true := by first | (simp [plainName, overriddenIn]; done) | decide +kernel
theorem efm20 (m : MethodId) (p0 : Int32) (p1 : Int32) : entryFrame m #[(.int p0), (.int p1), .null] 3 = mkF m 0 #[oI p0, oI p1, .val .null] [] := by first | (simp [entryFrame, mkF, argsToLocals, Value.category]; done) | rfl
def Qm20 (Z : State) (p0 : Int32) (p1 : Int32) (h0 : Heap) (n0 : Nat) (v : Option Value) (h : Heap) (L : List Loc) : Prop := v = some (.int p0) ∧ Fr n0 L ∧ (h = h0)
set_option maxRecDepth 65536 in
set_option maxHeartbeats 40000000 in
theorem rmm20 (l : Launch) (Z : State) (a0 : Array Value) (hw : own_HW Z a0) (ws : List Jvm.Cond) (p0 : Int32) (p1 : Int32) (h0 : Heap) (n0 : Nat) (Z0 : n0 ≤ h0.size) (hk0 : ¬ p0 < (0 : Int32)) (hk1 : p0 < p1) :
    MetFree l (⟨"jdk/internal/util/Preconditions", "checkIndex", "(IILjava/util/function/BiFunction;)I"⟩ : MethodName) (head1 (Jvm.Cond.code (⟨"jdk/internal/util/Preconditions", "checkIndex", "(IILjava/util/function/BiFunction;)I"⟩ : MethodName) jdk_41_method_11_code 3 (some .int) :: ws) ({ frames := 0, cells := 0, slots := 0, locals := 0 } : Room)) (fun a U => a = #[(.int p0), (.int p1), .null] ∧ Z.Warmed39 U.vm ∧ U.heap = h0) (fun _ _ _ _ _ => True) (fun _ U o U' => ∃ v L, o = .returned v ∧ Qm20 Z p0 p1 h0 n0 v U'.heap L ∧ FrameEnd U o U' L ({ frames := 0, cells := 0, slots := 0, locals := 0 } : Room).cells ({ frames := 0, cells := 0, slots := 0, locals := 0 } : Room).slots) := by
  refine MetFree.of_bodySF (plainFor_of_name pn5) hisR ?_
  intro p e s m args below meth c s₁ Bd hml0 hP hK
  obtain ⟨rfl, hZ, hh⟩ := hP
  have hx := Bd.exec
  have hby := Bd.bytes
  have hml : c.maxLocals = 3 := hml0
  have hown : s.vm.findClass "jdk/internal/util/Preconditions" = some m.cls := findClass_of_methodNamed Bd.named
  have hnm := (name_of_methodNamed Bd.named Bd.method).1
  have X0 : Stand p l e ({ frames := 0, cells := 0, slots := 0, locals := 0 } : Room) s m #[(.int p0), (.int p1), .null] below meth c s₁ [] 0 0 := Stand.of_body Bd
  have e0 : s₁.heap = h0 := by rw [← hh, Bd.state]; rfl
  have N0 := Fr.nil n0
  have pre0 : ∀ t, Steps p.tables e below (s₁.setTop (mkF m 0 #[oI p0, oI p1, .val .null] [])) t → Steps p.tables e below (s₁.setTop (entryFrame m #[(.int p0), (.int p1), .null] 3)) t := fun t k => castTop (efm20 m p0 p1) k
  obtain ⟨fs, hr, hrun, hended, hW, hsame⟩ := X0.leave (v := some (.int p0)) (fun h => by rw [Bd.returns] at h; cases h)
  refine ⟨_, _, pre0 _ ?_, hrun, hended, _, _, rfl, ?_, ⟨_, rfl⟩, hW, hsame.mono (by decide) (by decide)⟩
  · show own_S p e below s₁ m 0 #[oI p0, oI p1, .val .null] [] _
    refine XS.iloadN X0.here hx rfl (hb hby d20_0) rfl ?_
    refine XS.ifNo X0.here hx rfl (hb hby d20_1) rfl ((if0 _ _).trans (flt (hk0 : ¬ (p0 < (0 : Int32)))).1) ?_
    refine XS.iloadN X0.here hx rfl (hb hby d20_4) rfl ?_
    refine XS.iloadN X0.here hx rfl (hb hby d20_5) rfl ?_
    show own_S p e below s₁ m 6 _ [(.int p1), (.int p0)] _
    refine XS.icmpYes X0.here hx rfl (pc0 := 6) (pc' := 16) rfl (hb hby d20_6) rfl (tlt (hk1 : p0 < p1)).1 (by decide) (by decide) ?_
    refine XS.iloadN X0.here hx rfl (hb hby d20_16) rfl ?_
    show own_S p e below s₁ m 17 _ [(.int p0)] _
    exact retOut X0 hx Bd.returns rfl (Or.inl ⟨rfl, Or.inl rfl, _, rfl⟩) (hb hby d20_17) hr
  · show Qm20 Z p0 p1 h0 n0 _ s₁.heap _
    rw [e0]
    exact ⟨rfl, N0, rfl⟩
theorem pd6 : parseMethodDescriptor "(IILjava/util/function/BiFunction;)I" = some ⟨[.int, .int, (.object "java/util/function/BiFunction")], some .int⟩ := by decide +kernel
theorem d19_0 : decode k19 0 = .ok (.iload_n 0, 1) := by decide +kernel
theorem d19_1 : decode k19 1 = .ok (.iload_n 1, 1) := by decide +kernel
theorem d19_2 : decode k19 2 = .ok (.aconst_null, 1) := by decide +kernel
theorem d19_3 : decode k19 3 = .ok (.invokestatic 105, 3) := by decide +kernel
theorem d19_6 : decode k19 6 = .ok (.ireturn, 1) := by decide +kernel
theorem pn6 : plainName "java/util/Objects" = true := by first | (simp [plainName, overriddenIn]; done) | decide +kernel
theorem efm19 (m : MethodId) (p0 : Int32) (p1 : Int32) : entryFrame m #[(.int p0), (.int p1)] 2 = mkF m 0 #[oI p0, oI p1] [] := by first | (simp [entryFrame, mkF, argsToLocals, Value.category]; done) | rfl
def Qm19 (Z : State) (p0 : Int32) (p1 : Int32) (h0 : Heap) (n0 : Nat) (v : Option Value) (h : Heap) (L : List Loc) : Prop := v = some (.int p0) ∧ Fr n0 L ∧ (h = h0)
set_option maxRecDepth 65536 in
set_option maxHeartbeats 40000000 in
theorem rmm19 (l : Launch) (Z : State) (a0 : Array Value) (hw : own_HW Z a0) (ws : List Jvm.Cond) (p0 : Int32) (p1 : Int32) (h0 : Heap) (n0 : Nat) (Z0 : n0 ≤ h0.size) (hk0 : ¬ p0 < (0 : Int32)) (hk1 : p0 < p1) :
    MetFree l (⟨"java/util/Objects", "checkIndex", "(II)I"⟩ : MethodName) (head1 (Jvm.Cond.code (⟨"java/util/Objects", "checkIndex", "(II)I"⟩ : MethodName) jdk_31_method_17_code 2 (some .int) :: ws) ({ frames := 1, cells := 0, slots := 0, locals := 14 } : Room)) (fun a U => a = #[(.int p0), (.int p1)] ∧ Z.Warmed39 U.vm ∧ U.heap = h0) (fun _ _ _ _ _ => True) (fun _ U o U' => ∃ v L, o = .returned v ∧ Qm19 Z p0 p1 h0 n0 v U'.heap L ∧ FrameEnd U o U' L ({ frames := 1, cells := 0, slots := 0, locals := 14 } : Room).cells ({ frames := 1, cells := 0, slots := 0, locals := 14 } : Room).slots) := by
  refine MetFree.of_bodySF (plainFor_of_name pn6) hisR ?_
  intro p e s m args below meth c s₁ Bd hml0 hP hK
  obtain ⟨rfl, hZ, hh⟩ := hP
  have hx := Bd.exec
  have hby := Bd.bytes
  have hml : c.maxLocals = 2 := hml0
  have hown : s.vm.findClass "java/util/Objects" = some m.cls := findClass_of_methodNamed Bd.named
  have hnm := (name_of_methodNamed Bd.named Bd.method).1
  have X0 : Stand p l e ({ frames := 1, cells := 0, slots := 0, locals := 14 } : Room) s m #[(.int p0), (.int p1)] below meth c s₁ [] 0 0 := Stand.of_body Bd
  have e0 : s₁.heap = h0 := by rw [← hh, Bd.state]; rfl
  have N0 := Fr.nil n0
  have pre0 : ∀ t, Steps p.tables e below (s₁.setTop (mkF m 0 #[oI p0, oI p1] [])) t → Steps p.tables e below (s₁.setTop (entryFrame m #[(.int p0), (.int p1)] 2)) t := fun t k => castTop (efm19 m p0 p1) k
  obtain ⟨_, T101, L101, X101, hQ101, st101⟩ := own_cS X0 hx hZ hw hown (W := 0) (rmm20 l Z a0 hw [] p0 p1 h0 n0 Z0 hk0 hk1) (by decide) (by decide) (by decide) 129 rfl 130 rfl 131 rfl 132 rfl e0 (g := (mkF m 3 #[oI p0, oI p1] [.null, (.int p1), (.int p0)])) rfl (by rw [hml]; rfl) (argsL := [(.int p0), (.int p1), .null]) (rest := []) (lenOf pd6 rfl) rfl (Nat.le_of_eq rfl) (hb hby d19_3) rfl (cN := 0) rfl (by decide) (sN := 0) rfl (by decide)
  obtain ⟨rfl, Nq101, P101_0⟩ := hQ101
  have N101 := Fr.app N0 Nq101
  obtain ⟨fs, hr, hrun, hended, hW, hsame⟩ := X101.leave (v := some (.int p0)) (fun h => by rw [Bd.returns] at h; cases h)
  refine ⟨_, _, pre0 _ ?_, hrun, hended, _, _, rfl, ?_, ⟨_, rfl⟩, hW, hsame.mono (by decide) (by decide)⟩
  · show own_S p e below s₁ m 0 #[oI p0, oI p1] [] _
    refine XS.iloadN X0.here hx rfl (hb hby d19_0) rfl ?_
    refine XS.iloadN X0.here hx rfl (hb hby d19_1) rfl ?_
    show own_S p e below s₁ m 2 _ [(.int p1), (.int p0)] _
    refine XS.aconstNull X0.here hx rfl (hb hby d19_2) ?_
    show own_S p e below s₁ m 3 _ [.null, (.int p1), (.int p0)] _
    refine st101.trans ?_
    show own_S p e below T101 m 6 _ [(.int p0)] _
    exact retOut X101 hx Bd.returns rfl (Or.inl ⟨rfl, Or.inl rfl, _, rfl⟩) (hb hby d19_6) hr
  · show Qm19 Z p0 p1 h0 n0 _ T101.heap _
    rw [P101_0]
    exact ⟨rfl, N101, rfl⟩
theorem d21_0 : decode k21 0 = .ok (.aload_n 0, 1) := by decide +kernel
theorem d21_1 : decode k21 1 = .ok (.getfield 9, 3) := by decide +kernel
theorem d21_4 : decode k21 4 = .ok (.iload_n 1, 1) := by decide +kernel
theorem d21_5 : decode k21 5 = .ok (.aaload, 1) := by decide +kernel
theorem d21_6 : decode k21 6 = .ok (.areturn, 1) := by decide +kernel
theorem efm21 (m : MethodId) (r0 : Addr) : entryFrame m #[(.ref r0), (.int 0)] 2 = mkF m 0 #[oR r0, oI 0] [] := by first | (simp [entryFrame, mkF, argsToLocals, Value.category]; done) | rfl
def Qm21 (Z : State) (r0 : Addr) (el : Addr) (x : Addr) (kel : ClassId) (cap : Int32) (vs : List Value) (h0 : Heap) (n0 : Nat) (v : Option Value) (h : Heap) (L : List Loc) : Prop := v = some (.ref x) ∧ Fr n0 L ∧ (h = h0)
set_option maxRecDepth 65536 in
set_option maxHeartbeats 40000000 in
theorem rmm21 (l : Launch) (Z : State) (a0 : Array Value) (hw : own_HW Z a0) (ws : List Jvm.Cond) (r0 : Addr) (el : Addr) (x : Addr) (kel : ClassId) (cap : Int32) (vs : List Value) (h0 : Heap) (n0 : Nat) (Z0 : n0 ≤ h0.size) (F_elementData_r0 : Fld Z h0 r0 kAL "elementData" kOA (.ref el)) (V_el : Arv Z h0 el kel (.object kOB) cap vs .null) (hin : ¬ (0 : Int32) < (0 : Int32) ∧ (0 : Int32) < cap) (hg : vs.getD (0 : Int32).toNatClampNeg .null = .ref x) :
    MetFree l (⟨kAL, "elementData", "(I)Ljava/lang/Object;"⟩ : MethodName) (head1 (Jvm.Cond.code (⟨kAL, "elementData", "(I)Ljava/lang/Object;"⟩ : MethodName) jdk_38_method_18_code 2 (some (.object kOB)) :: ws) ({ frames := 0, cells := 0, slots := 0, locals := 0 } : Room)) (fun a U => a = #[(.ref r0), (.int 0)] ∧ Z.Warmed39 U.vm ∧ U.heap = h0) (fun _ _ _ _ _ => True) (fun _ U o U' => ∃ v L, o = .returned v ∧ Qm21 Z r0 el x kel cap vs h0 n0 v U'.heap L ∧ FrameEnd U o U' L ({ frames := 0, cells := 0, slots := 0, locals := 0 } : Room).cells ({ frames := 0, cells := 0, slots := 0, locals := 0 } : Room).slots) := by
  refine MetFree.of_bodySF (plainFor_of_name pn2) hisR ?_
  intro p e s m args below meth c s₁ Bd hml0 hP hK
  obtain ⟨rfl, hZ, hh⟩ := hP
  have hx := Bd.exec
  have hby := Bd.bytes
  have hml : c.maxLocals = 2 := hml0
  have hown : s.vm.findClass kAL = some m.cls := findClass_of_methodNamed Bd.named
  have hnm := (name_of_methodNamed Bd.named Bd.method).1
  have X0 : Stand p l e ({ frames := 0, cells := 0, slots := 0, locals := 0 } : Room) s m #[(.ref r0), (.int 0)] below meth c s₁ [] 0 0 := Stand.of_body Bd
  have e0 : s₁.heap = h0 := by rw [← hh, Bd.state]; rfl
  have N0 := Fr.nil n0
  have pre0 : ∀ t, Steps p.tables e below (s₁.setTop (mkF m 0 #[oR r0, oI 0] [])) t → Steps p.tables e below (s₁.setTop (entryFrame m #[(.ref r0), (.int 0)] 2)) t := fun t k => castTop (efm21 m r0) k
  obtain ⟨T101, X101, e101, st101⟩ := getF X0 hx hZ hown (host := "") (Or.inl (own_w hw 28 rfl)) Via.refl e0 F_elementData_r0 (g := (mkF m 1 #[oR r0, oI 0] [(.ref r0)])) rfl rfl (hb hby d21_1)
  obtain ⟨cl102, Ar102, qk102, Sz102, Nz102, Hh102, Gg102⟩ := id V_el
  have hin103 : ¬ ((0 : Int32) < 0 ∨ cl102.slots.size ≤ ((0 : Int32)).toNatClampNeg) := inb_of Sz102 hin
  have hat103 : cl102.slots[((0 : Int32)).toNatClampNeg]? = some (.ref x) := Has.at Hh102 hin103 hg
  obtain ⟨fs, hr, hrun, hended, hW, hsame⟩ := X101.leave (v := some (.ref x)) (fun h => by rw [Bd.returns] at h; cases h)
  refine ⟨_, _, pre0 _ ?_, hrun, hended, _, _, rfl, ?_, ⟨_, rfl⟩, hW, hsame.mono (by decide) (by decide)⟩
  · show own_S p e below s₁ m 0 #[oR r0, oI 0] [] _
    refine XS.aloadN X0.here hx rfl (hb hby d21_0) rfl rfl ?_
    show own_S p e below s₁ m 1 _ [(.ref r0)] _
    refine st101 _ ?_
    show own_S p e below T101 m 4 _ [(.ref el)] _
    refine XS.iloadN X101.here hx rfl (hb hby d21_4) rfl ?_
    show own_S p e below T101 m 5 _ [(.int 0), (.ref el)] _
    refine X101.aaload hx (j := (0 : Int32)) (v := (.ref x)) (by rw [e101]; exact Ar102.1) (State.isArrayOf_alike hZ.alike Ar102.2.1) rfl Ar102.2.2 hin103 hat103 (g := (mkF m 5 #[oR r0, oI 0] [(.int 0), (.ref el)])) rfl rfl (hb hby d21_5) _ ?_
    show own_S p e below T101 m 6 _ [(.ref x)] _
    exact retOut X101 hx Bd.returns rfl (Or.inr (Or.inr (Or.inr (Or.inr ⟨rfl, rfl, rfl⟩)))) (hb hby d21_6) hr
  · show Qm21 Z r0 el x kel cap vs h0 n0 _ T101.heap _
    rw [e101]
    exact ⟨rfl, N0, rfl⟩
theorem pd7 : parseMethodDescriptor "(I)Ljava/lang/Object;" = some ⟨[.int], some (.object kOB)⟩ := by decide +kernel
theorem d18_0 : decode k18 0 = .ok (.iload_n 1, 1) := by decide +kernel
theorem d18_1 : decode k18 1 = .ok (.aload_n 0, 1) := by decide +kernel
theorem d18_2 : decode k18 2 = .ok (.getfield 48, 3) := by decide +kernel
theorem d18_5 : decode k18 5 = .ok (.invokestatic 118, 3) := by decide +kernel
theorem d18_8 : decode k18 8 = .ok (.pop, 1) := by decide +kernel
theorem d18_9 : decode k18 9 = .ok (.aload_n 0, 1) := by decide +kernel
theorem d18_10 : decode k18 10 = .ok (.iload_n 1, 1) := by decide +kernel
theorem d18_11 : decode k18 11 = .ok (.invokevirtual 123, 3) := by decide +kernel
theorem d18_14 : decode k18 14 = .ok (.areturn, 1) := by decide +kernel
theorem efm18 (m : MethodId) (r0 : Addr) : entryFrame m #[(.ref r0), (.int 0)] 2 = mkF m 0 #[oR r0, oI 0] [] := by first | (simp [entryFrame, mkF, argsToLocals, Value.category]; done) | rfl
def Qm18 (Z : State) (r0 : Addr) (el : Addr) (x : Addr) (kel : ClassId) (cap : Int32) (vs : List Value) (n : Int32) (h0 : Heap) (n0 : Nat) (v : Option Value) (h : Heap) (L : List Loc) : Prop := v = some (.ref x) ∧ Fr n0 L ∧ (h = h0)
set_option maxRecDepth 65536 in
set_option maxHeartbeats 40000000 in
theorem rmm18 (l : Launch) (Z : State) (a0 : Array Value) (hw : own_HW Z a0) (ws : List Jvm.Cond) (r0 : Addr) (el : Addr) (x : Addr) (kel : ClassId) (cap : Int32) (vs : List Value) (n : Int32) (h0 : Heap) (n0 : Nat) (Z0 : n0 ≤ h0.size) (F_elementData_r0 : Fld Z h0 r0 kAL "elementData" kOA (.ref el)) (V_el : Arv Z h0 el kel (.object kOB) cap vs .null) (hin : ¬ (0 : Int32) < (0 : Int32) ∧ (0 : Int32) < cap) (hg : vs.getD (0 : Int32).toNatClampNeg .null = .ref x) (F_size_r0 : Fld Z h0 r0 kAL "size" "I" (.int n)) (h1 : (0 : Int32) < n) (E_r0 : Exa Z h0 r0 kAL) :
    MetFree l (⟨kAL, "get", "(I)Ljava/lang/Object;"⟩ : MethodName) (head1 (Jvm.Cond.code (⟨kAL, "get", "(I)Ljava/lang/Object;"⟩ : MethodName) jdk_38_method_20_code 2 (some (.object kOB)) :: ws) ({ frames := 2, cells := 0, slots := 0, locals := 27 } : Room)) (fun a U => a = #[(.ref r0), (.int 0)] ∧ Z.Warmed39 U.vm ∧ U.heap = h0) (fun _ _ _ _ _ => True) (fun _ U o U' => ∃ v L, o = .returned v ∧ Qm18 Z r0 el x kel cap vs n h0 n0 v U'.heap L ∧ FrameEnd U o U' L ({ frames := 2, cells := 0, slots := 0, locals := 27 } : Room).cells ({ frames := 2, cells := 0, slots := 0, locals := 27 } : Room).slots) := by
  refine MetFree.of_bodySF (plainFor_of_name pn2) hisR ?_
  intro p e s m args below meth c s₁ Bd hml0 hP hK
  obtain ⟨rfl, hZ, hh⟩ := hP
  have hx := Bd.exec
  have hby := Bd.bytes
  have hml : c.maxLocals = 2 := hml0
  have hown : s.vm.findClass kAL = some m.cls := findClass_of_methodNamed Bd.named
  have hnm := (name_of_methodNamed Bd.named Bd.method).1
  have X0 : Stand p l e ({ frames := 2, cells := 0, slots := 0, locals := 27 } : Room) s m #[(.ref r0), (.int 0)] below meth c s₁ [] 0 0 := Stand.of_body Bd
  have e0 : s₁.heap = h0 := by rw [← hh, Bd.state]; rfl
  have N0 := Fr.nil n0
  have pre0 : ∀ t, Steps p.tables e below (s₁.setTop (mkF m 0 #[oR r0, oI 0] [])) t → Steps p.tables e below (s₁.setTop (entryFrame m #[(.ref r0), (.int 0)] 2)) t := fun t k => castTop (efm18 m r0) k
  obtain ⟨T101, X101, e101, st101⟩ := getF X0 hx hZ hown (host := "") (Or.inl (own_w hw 60 rfl)) Via.refl e0 F_size_r0 (g := (mkF m 2 #[oR r0, oI 0] [(.ref r0), (.int 0)])) rfl rfl (hb hby d18_2)
  obtain ⟨_, T102, L102, X102, hQ102, st102⟩ := own_cS X101 hx hZ hw hown (W := 0) (rmm19 l Z a0 hw [] (0 : Int32) n h0 n0 Z0 (by decide) h1) (by decide) (by decide) (by decide) 126 rfl 127 rfl 108 rfl 128 rfl e101 (g := (mkF m 5 #[oR r0, oI 0] [(.int n), (.int 0)])) rfl (by rw [hml]; rfl) (argsL := [(.int 0), (.int n)]) (rest := []) (lenOf pd2 rfl) rfl (Nat.le_of_eq rfl) (hb hby d18_5) rfl (cN := 0) rfl (by decide) (sN := 0) rfl (by decide)
  obtain ⟨rfl, Nq102, P102_0⟩ := hQ102
  have N102 := Fr.app N0 Nq102
  obtain ⟨_, T103, L103, X103, hQ103, st103⟩ := own_cV X102 hx hZ hw hown (b := r0) (W := 0) (rmm21 l Z a0 hw [] r0 el x kel cap vs h0 n0 Z0 F_elementData_r0 V_el hin hg) (by decide) (by decide) (by decide) 133 rfl 134 rfl 136 rfl 135 rfl 137 rfl 6 rfl P102_0 E_r0 (g := (mkF m 11 #[oR r0, oI 0] [(.int 0), (.ref r0)])) rfl (by rw [hml]; rfl) (argsL := [(.int 0)]) (rest := []) (lenOf pd7 rfl) rfl (Nat.le_of_eq rfl) (hb hby d18_11) rfl (cN := 0) rfl (by decide) (sN := 0) rfl (by decide)
  obtain ⟨rfl, Nq103, P103_0⟩ := hQ103
  have N103 := Fr.app N102 Nq103
  obtain ⟨fs, hr, hrun, hended, hW, hsame⟩ := X103.leave (v := some (.ref x)) (fun h => by rw [Bd.returns] at h; cases h)
  refine ⟨_, _, pre0 _ ?_, hrun, hended, _, _, rfl, ?_, ⟨_, rfl⟩, hW, hsame.mono (by decide) (by decide)⟩
  · show own_S p e below s₁ m 0 #[oR r0, oI 0] [] _
    refine XS.iloadN X0.here hx rfl (hb hby d18_0) rfl ?_
    refine XS.aloadN X0.here hx rfl (hb hby d18_1) rfl rfl ?_
    show own_S p e below s₁ m 2 _ [(.ref r0), (.int 0)] _
    refine st101 _ ?_
    show own_S p e below T101 m 5 _ [(.int n), (.int 0)] _
    refine st102.trans ?_
    show own_S p e below T102 m 8 _ [(.int 0)] _
    refine XS.pop X102.here hx rfl (hb hby d18_8) rfl rfl ?_
    show own_S p e below T102 m 9 _ [] _
    refine XS.aloadN X102.here hx rfl (hb hby d18_9) rfl rfl ?_
    refine XS.iloadN X102.here hx rfl (hb hby d18_10) rfl ?_
    show own_S p e below T102 m 11 #[oR r0, oI 0] [(.int 0), (.ref r0)] _
    refine st103.trans ?_
    show own_S p e below T103 m 14 _ [(.ref x)] _
    exact retOut X103 hx Bd.returns rfl (Or.inr (Or.inr (Or.inr (Or.inr ⟨rfl, rfl, rfl⟩)))) (hb hby d18_14) hr
  · show Qm18 Z r0 el x kel cap vs n h0 n0 _ T103.heap _
    rw [P103_0]
    exact ⟨rfl, N103, rfl⟩
theorem sn3 {Z : State} {a0 : Array Value} (hw : own_HW Z a0) : Jvm.RoadKit.slotOf Z kITR "lastRet" "I" ≠ Jvm.RoadKit.slotOf Z kITR "this$0" "Ljava/util/ArrayList;" := slot_ne (Or.inl (own_w hw 170 rfl)) (Or.inr (own_w hw 167 rfl)) (by decide) (t := .int) (t' := (.object kAL)) (by decide) (by decide)
theorem sn4 {Z : State} {a0 : Array Value} (hw : own_HW Z a0) : Jvm.RoadKit.slotOf Z kITR "expectedModCount" "I" ≠ Jvm.RoadKit.slotOf Z kITR "this$0" "Ljava/util/ArrayList;" := slot_ne (Or.inl (own_w hw 173 rfl)) (Or.inr (own_w hw 167 rfl)) (by decide) (t := .int) (t' := (.object kAL)) (by decide) (by decide)
theorem sn5 {Z : State} {a0 : Array Value} (hw : own_HW Z a0) : Jvm.RoadKit.slotOf Z kITR "expectedModCount" "I" ≠ Jvm.RoadKit.slotOf Z kITR "lastRet" "I" := slot_ne (Or.inl (own_w hw 173 rfl)) (Or.inl (own_w hw 170 rfl)) (by decide) (t := .int) (t' := .int) (by decide) (by decide)
theorem sn6 {Z : State} {a0 : Array Value} (hw : own_HW Z a0) : Jvm.RoadKit.slotOf Z kITR "cursor" "I" ≠ Jvm.RoadKit.slotOf Z kITR "this$0" "Ljava/util/ArrayList;" := slot_ne (Or.inl (own_w hw 184 rfl)) (Or.inr (own_w hw 167 rfl)) (by decide) (t := .int) (t' := (.object kAL)) (by decide) (by decide)
theorem sn7 {Z : State} {a0 : Array Value} (hw : own_HW Z a0) : Jvm.RoadKit.slotOf Z kITR "cursor" "I" ≠ Jvm.RoadKit.slotOf Z kITR "lastRet" "I" := slot_ne (Or.inl (own_w hw 184 rfl)) (Or.inl (own_w hw 170 rfl)) (by decide) (t := .int) (t' := .int) (by decide) (by decide)
theorem sn8 {Z : State} {a0 : Array Value} (hw : own_HW Z a0) : Jvm.RoadKit.slotOf Z kITR "cursor" "I" ≠ Jvm.RoadKit.slotOf Z kITR "expectedModCount" "I" := slot_ne (Or.inl (own_w hw 184 rfl)) (Or.inl (own_w hw 173 rfl)) (by decide) (t := .int) (t' := .int) (by decide) (by decide)
theorem d25_0 : decode k25 0 = .ok (.aload_n 0, 1) := by decide +kernel
theorem d25_1 : decode k25 1 = .ok (.aload_n 1, 1) := by decide +kernel
theorem d25_2 : decode k25 2 = .ok (.putfield 1, 3) := by decide +kernel
theorem d25_5 : decode k25 5 = .ok (.aload_n 0, 1) := by decide +kernel
theorem d25_6 : decode k25 6 = .ok (.invokespecial 7, 3) := by decide +kernel
theorem d25_9 : decode k25 9 = .ok (.aload_n 0, 1) := by decide +kernel
theorem d25_10 : decode k25 10 = .ok (.iconst (-1), 1) := by decide +kernel
theorem d25_11 : decode k25 11 = .ok (.putfield 13, 3) := by decide +kernel
theorem d25_14 : decode k25 14 = .ok (.aload_n 0, 1) := by decide +kernel
theorem d25_15 : decode k25 15 = .ok (.aload_n 0, 1) := by decide +kernel
theorem d25_16 : decode k25 16 = .ok (.getfield 1, 3) := by decide +kernel
theorem d25_19 : decode k25 19 = .ok (.getfield 17, 3) := by decide +kernel
theorem d25_22 : decode k25 22 = .ok (.putfield 22, 3) := by decide +kernel
theorem d25_25 : decode k25 25 = .ok (.return_, 1) := by decide +kernel
theorem pn7 : plainName kITR = true := by first | (simp [plainName, overriddenIn]; done) | decide +kernel
theorem efm25 (m : MethodId) (r0 : Addr) (r1 : Addr) : entryFrame m #[(.ref r0), (.ref r1)] 2 = mkF m 0 #[oR r0, oR r1] [] := by first | (simp [entryFrame, mkF, argsToLocals, Value.category]; done) | rfl
def Qm25 (Z : State) (r0 : Addr) (r1 : Addr) (w1 : Value) (w2 : Value) (w3 : Value) (w4 : Value) (mc : Int32) (h0 : Heap) (n0 : Nat) (v : Option Value) (h : Heap) (L : List Loc) : Prop := v = none ∧ Fr n0 L ∧ (Keep h0 h [r0]) ∧ (Fld Z h r0 kITR "cursor" "I" w1) ∧ (Fld Z h r0 kITR "lastRet" "I" (.int (-1))) ∧ (Fld Z h r0 kITR "expectedModCount" "I" (.int mc)) ∧ (Fld Z h r0 kITR "this$0" "Ljava/util/ArrayList;" (.ref r1))
set_option maxRecDepth 65536 in
set_option maxHeartbeats 40000000 in
theorem rmm25 (l : Launch) (Z : State) (a0 : Array Value) (hw : own_HW Z a0) (ws : List Jvm.Cond) (r0 : Addr) (r1 : Addr) (w1 : Value) (w2 : Value) (w3 : Value) (w4 : Value) (mc : Int32) (h0 : Heap) (n0 : Nat) (Z0 : n0 ≤ h0.size) (E_r0 : Exa Z h0 r0 kITR) (E_r1 : Exa Z h0 r1 kAL) (g_r0 : n0 ≤ r0) (F_cursor_r0 : Fld Z h0 r0 kITR "cursor" "I" w1) (F_lastRet_r0 : Fld Z h0 r0 kITR "lastRet" "I" w2) (F_expectedModCount_r0 : Fld Z h0 r0 kITR "expectedModCount" "I" w3) (F_this_0_r0 : Fld Z h0 r0 kITR "this$0" "Ljava/util/ArrayList;" w4) (F_modCount_r1 : Fld Z h0 r1 kABL "modCount" "I" (.int mc)) :
    MetFree l (⟨kITR, "<init>", "(Ljava/util/ArrayList;)V"⟩ : MethodName) (head1 (Jvm.Cond.code (⟨kITR, "<init>", "(Ljava/util/ArrayList;)V"⟩ : MethodName) jdk_49_method_1_code 2 none :: ws) ({ frames := 1, cells := 0, slots := 0, locals := 12 } : Room)) (fun a U => a = #[(.ref r0), (.ref r1)] ∧ Z.Warmed39 U.vm ∧ U.heap = h0) (fun _ _ _ _ _ => True) (fun _ U o U' => ∃ v L, o = .returned v ∧ Qm25 Z r0 r1 w1 w2 w3 w4 mc h0 n0 v U'.heap L ∧ FrameEnd U o U' L ({ frames := 1, cells := 0, slots := 0, locals := 12 } : Room).cells ({ frames := 1, cells := 0, slots := 0, locals := 12 } : Room).slots) := by
  refine MetFree.of_bodySF (plainFor_of_name pn7) hisR ?_
  intro p e s m args below meth c s₁ Bd hml0 hP hK
  obtain ⟨rfl, hZ, hh⟩ := hP
  have hx := Bd.exec
  have hby := Bd.bytes
  have hml : c.maxLocals = 2 := hml0
  have hown : s.vm.findClass kITR = some m.cls := findClass_of_methodNamed Bd.named
  have hnm := (name_of_methodNamed Bd.named Bd.method).1
  have X0 : Stand p l e ({ frames := 1, cells := 0, slots := 0, locals := 12 } : Room) s m #[(.ref r0), (.ref r1)] below meth c s₁ [] 0 0 := Stand.of_body Bd
  have e0 : s₁.heap = h0 := by rw [← hh, Bd.state]; rfl
  have N0 := Fr.nil n0
  have pre0 : ∀ t, Steps p.tables e below (s₁.setTop (mkF m 0 #[oR r0, oR r1] [])) t → Steps p.tables e below (s₁.setTop (entryFrame m #[(.ref r0), (.ref r1)] 2)) t := fun t k => castTop (efm25 m r0 r1) k
  obtain ⟨T101, h101, X101, e101, W101, st101⟩ := putF X0 hx hZ hown (host := "") (Or.inl (own_w hw 166 rfl)) Via.refl e0 F_this_0_r0 E_r0 (Or.inr ⟨(own_w hw 167 rfl), rfl, hnm⟩) (own_w hw 160 rfl) (ty := (.object kAL)) (by decide) rfl rfl (g := (mkF m 2 #[oR r0, oR r1] [(.ref r1), (.ref r0)])) rfl rfl (hb hby d25_2)
  have Fw101 := F_this_0_r0.same W101
  have N101 := Fr.snoc X101 N0 g_r0
  have ZZ102 : n0 ≤ h101.size := Nat.le_trans Z0 (Nat.le_of_eq W101.size.symm)
  have KK103 : Keep h0 h101 [r0] := (Keep.refl h0 [r0]).wr W101 (Or.inl (List.mem_of_getElem? (i := 0) rfl))
  obtain ⟨T104, X104, e104, st104⟩ := initO X101 hx hZ hown (own_w hw 168 rfl) (own_w hw 23 rfl) (own_w hw 24 rfl) e101 (g := (mkF m 6 #[oR r0, oR r1] [(.ref r0)])) rfl (by rw [hml]; rfl) rfl (hb hby d25_6) (by decide) (W := 0) (by show 2 * 0 + _ ≤ _; exact Nat.le_of_eq rfl) (by decide)
  have Fc105 := (F_lastRet_r0.other W101 (Or.inr (sn3 hw)))
  obtain ⟨T106, h106, X106, e106, W106, st106⟩ := putF X104 hx hZ hown (host := "") (Or.inl (own_w hw 169 rfl)) Via.refl e104 Fc105 (E_r0.wr W101) (Or.inl (own_w hw 170 rfl)) (own_w hw 160 rfl) (ty := .int) (by decide) rfl rfl (g := (mkF m 11 #[oR r0, oR r1] [(.int (-1)), (.ref r0)])) rfl rfl (hb hby d25_11)
  have Fw106 := Fc105.same W106
  have N106 := Fr.snoc X106 N101 g_r0
  have ZZ107 : n0 ≤ h106.size := Nat.le_trans ZZ102 (Nat.le_of_eq W106.size.symm)
  have KK108 : Keep h0 h106 [r0] := KK103.wr W106 (Or.inl (List.mem_of_getElem? (i := 0) rfl))
  have Fc109 := (Fw101.other W106 (Or.inr (Ne.symm (sn3 hw))))
  obtain ⟨T110, X110, e110, st110⟩ := getF X106 hx hZ hown (host := "") (Or.inl (own_w hw 166 rfl)) Via.refl e106 Fc109 (g := (mkF m 16 #[oR r0, oR r1] [(.ref r0), (.ref r0)])) rfl rfl (hb hby d25_16)
  have Fc111 := (E_r1.keep KK108)
  have nq112 : r1 ≠ r0 := (ne_exa Fc111 ((E_r0.wr W101).wr W106) (by decide))
  have Fc113 := (F_modCount_r1.keep KK108 (ninS nq112 nin0))
  obtain ⟨T114, X114, e114, st114⟩ := getF X110 hx hZ hown (host := "") (Or.inl (own_w hw 171 rfl)) (Via.of (own_w hw 59 rfl)) e110 Fc113 (g := (mkF m 19 #[oR r0, oR r1] [(.ref r1), (.ref r0)])) rfl rfl (hb hby d25_19)
  have Fc115 := ((F_expectedModCount_r0.other W101 (Or.inr (sn4 hw))).other W106 (Or.inr (sn5 hw)))
  obtain ⟨T116, h116, X116, e116, W116, st116⟩ := putF X114 hx hZ hown (host := "") (Or.inl (own_w hw 172 rfl)) Via.refl e114 Fc115 ((E_r0.wr W101).wr W106) (Or.inl (own_w hw 173 rfl)) (own_w hw 160 rfl) (ty := .int) (by decide) rfl rfl (g := (mkF m 22 #[oR r0, oR r1] [(.int mc), (.ref r0)])) rfl rfl (hb hby d25_22)
  have Fw116 := Fc115.same W116
  have N116 := Fr.snoc X116 N106 g_r0
  have ZZ117 : n0 ≤ h116.size := Nat.le_trans ZZ107 (Nat.le_of_eq W116.size.symm)
  have KK118 : Keep h0 h116 [r0] := KK108.wr W116 (Or.inl (List.mem_of_getElem? (i := 0) rfl))
  obtain ⟨fs, hr, hrun, hended, hW, hsame⟩ := X116.leave (v := none) (fun _ => rfl)
  refine ⟨_, _, pre0 _ ?_, hrun, hended, _, _, rfl, ?_, ⟨_, rfl⟩, hW, hsame.mono (by decide) (by decide)⟩
  · show own_S p e below s₁ m 0 #[oR r0, oR r1] [] _
    refine XS.aloadN X0.here hx rfl (hb hby d25_0) rfl rfl ?_
    refine XS.aloadN X0.here hx rfl (hb hby d25_1) rfl rfl ?_
    show own_S p e below s₁ m 2 _ [(.ref r1), (.ref r0)] _
    refine st101 _ ?_
    show own_S p e below T101 m 5 _ [] _
    refine XS.aloadN X101.here hx rfl (hb hby d25_5) rfl rfl ?_
    show own_S p e below T101 m 6 _ [(.ref r0)] _
    refine st104 _ ?_
    show own_S p e below T104 m 9 _ [] _
    refine XS.aloadN X104.here hx rfl (hb hby d25_9) rfl rfl ?_
    refine XS.iconst X104.here hx rfl (hb hby d25_10) ?_
    show own_S p e below T104 m 11 #[oR r0, oR r1] [(.int (-1)), (.ref r0)] _
    refine st106 _ ?_
    show own_S p e below T106 m 14 _ [] _
    refine XS.aloadN X106.here hx rfl (hb hby d25_14) rfl rfl ?_
    refine XS.aloadN X106.here hx rfl (hb hby d25_15) rfl rfl ?_
    show own_S p e below T106 m 16 _ [(.ref r0), (.ref r0)] _
    refine st110 _ ?_
    show own_S p e below T110 m 19 _ [(.ref r1), (.ref r0)] _
    refine st114 _ ?_
    show own_S p e below T114 m 22 _ [(.int mc), (.ref r0)] _
    refine st116 _ ?_
    show own_S p e below T116 m 25 _ [] _
    exact X116.returnOut hx Bd.returns (hb hby d25_25) hr
  · show Qm25 Z r0 r1 w1 w2 w3 w4 mc h0 n0 _ T116.heap _
    rw [e116]
    exact ⟨rfl, N116, KK118, (((F_cursor_r0.other W101 (Or.inr (sn6 hw))).other W106 (Or.inr (sn7 hw))).other W116 (Or.inr (sn8 hw))), (Fw106.other W116 (Or.inr (Ne.symm (sn5 hw)))), Fw116, (Fc109.other W116 (Or.inr (Ne.symm (sn4 hw))))⟩
theorem pd8 : parseMethodDescriptor "(Ljava/util/ArrayList;)V" = some ⟨[(.object kAL)], none⟩ := by decide +kernel
theorem d24_0 : decode k24 0 = .ok (.new 267, 3) := by decide +kernel
theorem d24_3 : decode k24 3 = .ok (.dup, 1) := by decide +kernel
theorem d24_4 : decode k24 4 = .ok (.aload_n 0, 1) := by decide +kernel
theorem d24_5 : decode k24 5 = .ok (.invokespecial 269, 3) := by decide +kernel
theorem d24_8 : decode k24 8 = .ok (.areturn, 1) := by decide +kernel
theorem efm24 (m : MethodId) (r0 : Addr) : entryFrame m #[(.ref r0)] 1 = mkF m 0 #[oR r0] [] := by first | (simp [entryFrame, mkF, argsToLocals, Value.category]; done) | rfl
def Qm24 (Z : State) (r0 : Addr) (mc : Int32) (h0 : Heap) (n0 : Nat) (v : Option Value) (h : Heap) (L : List Loc) : Prop := ∃ it : Addr, v = some (.ref it) ∧ Fr n0 L ∧ (Keep h0 h []) ∧ (h0.size ≤ it) ∧ (Exa Z h it kITR) ∧ (Fld Z h it kITR "cursor" "I" (.int 0)) ∧ (Fld Z h it kITR "lastRet" "I" (.int (-1))) ∧ (Fld Z h it kITR "expectedModCount" "I" (.int mc)) ∧ (Fld Z h it kITR "this$0" "Ljava/util/ArrayList;" (.ref r0))
set_option maxRecDepth 65536 in
set_option maxHeartbeats 40000000 in
theorem rmm24 (l : Launch) (Z : State) (a0 : Array Value) (hw : own_HW Z a0) (ws : List Jvm.Cond) (r0 : Addr) (mc : Int32) (h0 : Heap) (n0 : Nat) (Z0 : n0 ≤ h0.size) (E_r0 : Exa Z h0 r0 kAL) (F_modCount_r0 : Fld Z h0 r0 kABL "modCount" "I" (.int mc)) :
    MetFree l (⟨kAL, "iterator", "()Ljava/util/Iterator;"⟩ : MethodName) (head1 (Jvm.Cond.code (⟨kAL, "iterator", "()Ljava/util/Iterator;"⟩ : MethodName) jdk_38_method_55_code 1 (some (.object "java/util/Iterator")) :: ws) ({ frames := 2, cells := 1, slots := 4, locals := 26 } : Room)) (fun a U => a = #[(.ref r0)] ∧ Z.Warmed39 U.vm ∧ U.heap = h0) (fun _ _ _ _ _ => True) (fun _ U o U' => ∃ v L, o = .returned v ∧ Qm24 Z r0 mc h0 n0 v U'.heap L ∧ FrameEnd U o U' L ({ frames := 2, cells := 1, slots := 4, locals := 26 } : Room).cells ({ frames := 2, cells := 1, slots := 4, locals := 26 } : Room).slots) := by
  refine MetFree.of_bodySF (plainFor_of_name pn2) hisR ?_
  intro p e s m args below meth c s₁ Bd hml0 hP hK
  obtain ⟨rfl, hZ, hh⟩ := hP
  have hx := Bd.exec
  have hby := Bd.bytes
  have hml : c.maxLocals = 1 := hml0
  have hown : s.vm.findClass kAL = some m.cls := findClass_of_methodNamed Bd.named
  have hnm := (name_of_methodNamed Bd.named Bd.method).1
  have X0 : Stand p l e ({ frames := 2, cells := 1, slots := 4, locals := 26 } : Room) s m #[(.ref r0)] below meth c s₁ [] 0 0 := Stand.of_body Bd
  have e0 : s₁.heap = h0 := by rw [← hh, Bd.state]; rfl
  have N0 := Fr.nil n0
  have pre0 : ∀ t, Steps p.tables e below (s₁.setTop (mkF m 0 #[oR r0] [])) t → Steps p.tables e below (s₁.setTop (entryFrame m #[(.ref r0)] 1)) t := fun t k => castTop (efm24 m r0) k
  obtain ⟨T101, h101, X101, e101, E101, A101, D101, -, st101⟩ := newO X0 hx hZ hown (own_w hw 159 rfl) (own_w hw 160 rfl) (own_w hw 161 rfl) e0 (g := (mkF m 0 #[oR r0] [])) rfl (hb hby d24_0) (by decide) (by decide)
  obtain ⟨b101, g101⟩ : ∃ z, z = h0.size := ⟨_, rfl⟩
  rw [← g101] at A101 D101 st101
  have g_b101 : n0 ≤ b101 := Nat.le_trans Z0 (Nat.le_of_eq g101.symm)
  have sz_b101 : h0.size ≤ b101 := Nat.le_trans (Keep.refl h0 []).1 (Nat.le_of_eq g101.symm)
  have ZZ102 : n0 ≤ h101.size := Nat.le_trans Z0 E101.1
  have KK103 : Keep h0 h101 [] := (Keep.refl h0 []).ext E101
  have F_this_0_b101 : Fld Z h101 b101 kITR "this$0" "Ljava/util/ArrayList;" .null := D101 (Or.inr (own_w hw 167 rfl)) (ty := (.object kAL)) (by decide)
  have F_lastRet_b101 : Fld Z h101 b101 kITR "lastRet" "I" (.int 0) := D101 (Or.inl (own_w hw 170 rfl)) (ty := .int) (by decide)
  have F_expectedModCount_b101 : Fld Z h101 b101 kITR "expectedModCount" "I" (.int 0) := D101 (Or.inl (own_w hw 173 rfl)) (ty := .int) (by decide)
  have F_cursor_b101 : Fld Z h101 b101 kITR "cursor" "I" (.int 0) := D101 (Or.inl (own_w hw 184 rfl)) (ty := .int) (by decide)
  obtain ⟨_, T104, L104, X104, hQ104, st104⟩ := own_cC X101 hx hZ hw hown (b := b101) (W := 1) (rmm25 l Z a0 hw [] b101 r0 (.int 0) (.int 0) (.int 0) .null mc h101 n0 ZZ102 A101 (E_r0.ext E101) g_b101 F_cursor_b101 F_lastRet_b101 F_expectedModCount_b101 F_this_0_b101 (F_modCount_r0.ext E101)) (by decide) (by decide) (by decide) rfl 162 rfl 163 rfl 165 rfl 161 rfl e101 (g := (mkF m 5 #[oR r0] [(.ref r0), (.ref b101), (.ref b101)])) rfl (by rw [hml]; rfl) (argsL := [(.ref r0)]) (rest := [(.ref b101)]) (lenOf pd8 rfl) rfl (Nat.le_of_eq rfl) (hb hby d24_5) rfl (cN := 1) rfl (by decide) (sN := 4) rfl (by decide)
  obtain ⟨rfl, Nq104, P104_0, P104_1, P104_2, P104_3, P104_4⟩ := hQ104
  have N104 := Fr.app N0 Nq104
  have ZZ105 : n0 ≤ T104.heap.size := Nat.le_trans ZZ102 P104_0.1
  have KK106 : Keep h0 T104.heap [] := Keep.trans KK103 P104_0 (allS (Or.inr sz_b101) all0)
  obtain ⟨fs, hr, hrun, hended, hW, hsame⟩ := X104.leave (v := some (.ref b101)) (fun h => by rw [Bd.returns] at h; cases h)
  refine ⟨_, _, pre0 _ ?_, hrun, hended, _, _, rfl, ?_, ⟨_, rfl⟩, hW, hsame.mono (by decide) (by decide)⟩
  · show own_S p e below s₁ m 0 #[oR r0] [] _
    refine st101 _ ?_
    show own_S p e below T101 m 3 _ [(.ref b101)] _
    refine XS.dup X101.here hx rfl (hb hby d24_3) rfl rfl ?_
    refine XS.aloadN X101.here hx rfl (hb hby d24_4) rfl rfl ?_
    show own_S p e below T101 m 5 _ [(.ref r0), (.ref b101), (.ref b101)] _
    refine st104.trans ?_
    show own_S p e below T104 m 8 _ [(.ref b101)] _
    exact retOut X104 hx Bd.returns rfl (Or.inr (Or.inr (Or.inr (Or.inr ⟨rfl, rfl, rfl⟩)))) (hb hby d24_8) hr
  · show Qm24 Z r0 mc h0 n0 _ T104.heap _
    exact ⟨b101, rfl, N104, KK106, sz_b101, (A101.keep P104_0), P104_1, P104_2, P104_3, P104_4⟩
theorem d26_0 : decode k26 0 = .ok (.aload_n 0, 1) := by decide +kernel
theorem d26_1 : decode k26 1 = .ok (.getfield 25, 3) := by decide +kernel
theorem d26_4 : decode k26 4 = .ok (.aload_n 0, 1) := by decide +kernel
theorem d26_5 : decode k26 5 = .ok (.getfield 1, 3) := by decide +kernel
theorem d26_8 : decode k26 8 = .ok (.getfield 28, 3) := by decide +kernel
theorem d26_11 : decode k26 11 = .ok (.if_icmp .eq 7, 3) := by decide +kernel
theorem d26_14 : decode k26 14 = .ok (.iconst 1, 1) := by decide +kernel
theorem d26_15 : decode k26 15 = .ok (.goto 4, 3) := by decide +kernel
theorem d26_19 : decode k26 19 = .ok (.ireturn, 1) := by decide +kernel
theorem ef_hn1 (m : MethodId) (r0 : Addr) : entryFrame m #[(.ref r0)] 1 = mkF m 0 #[oR r0] [] := by first | (simp [entryFrame, mkF, argsToLocals, Value.category]; done) | rfl
def Q_hn1 (Z : State) (r0 : Addr) (la : Addr) (mc : Int32) (cc : Int32) (n : Int32) (wl : Value) (h0 : Heap) (n0 : Nat) (v : Option Value) (h : Heap) (L : List Loc) : Prop := v = some (.int 1) ∧ Fr n0 L ∧ (h = h0)
set_option maxRecDepth 65536 in
set_option maxHeartbeats 40000000 in
theorem rm_hn1 (l : Launch) (Z : State) (a0 : Array Value) (hw : own_HW Z a0) (ws : List Jvm.Cond) (r0 : Addr) (la : Addr) (mc : Int32) (cc : Int32) (n : Int32) (wl : Value) (h0 : Heap) (n0 : Nat) (Z0 : n0 ≤ h0.size) (F_cursor_r0 : Fld Z h0 r0 kITR "cursor" "I" (.int cc)) (F_lastRet_r0 : Fld Z h0 r0 kITR "lastRet" "I" wl) (F_expectedModCount_r0 : Fld Z h0 r0 kITR "expectedModCount" "I" (.int mc)) (F_this_0_r0 : Fld Z h0 r0 kITR "this$0" "Ljava/util/ArrayList;" (.ref la)) (F_size_la : Fld Z h0 la kAL "size" "I" (.int n)) (hq : ¬ (cc = n)) :
    MetFree l (⟨kITR, "hasNext", "()Z"⟩ : MethodName) (head1 (Jvm.Cond.code (⟨kITR, "hasNext", "()Z"⟩ : MethodName) jdk_49_method_2_code 1 (some .boolean) :: ws) ({ frames := 0, cells := 0, slots := 0, locals := 0 } : Room)) (fun a U => a = #[(.ref r0)] ∧ Z.Warmed39 U.vm ∧ U.heap = h0) (fun _ _ _ _ _ => True) (fun _ U o U' => ∃ v L, o = .returned v ∧ Q_hn1 Z r0 la mc cc n wl h0 n0 v U'.heap L ∧ FrameEnd U o U' L ({ frames := 0, cells := 0, slots := 0, locals := 0 } : Room).cells ({ frames := 0, cells := 0, slots := 0, locals := 0 } : Room).slots) := by
  refine MetFree.of_bodySF (plainFor_of_name pn7) hisR ?_
  intro p e s m args below meth c s₁ Bd hml0 hP hK
  obtain ⟨rfl, hZ, hh⟩ := hP
  have hx := Bd.exec
  have hby := Bd.bytes
  have hml : c.maxLocals = 1 := hml0
  have hown : s.vm.findClass kITR = some m.cls := findClass_of_methodNamed Bd.named
  have hnm := (name_of_methodNamed Bd.named Bd.method).1
  have X0 : Stand p l e ({ frames := 0, cells := 0, slots := 0, locals := 0 } : Room) s m #[(.ref r0)] below meth c s₁ [] 0 0 := Stand.of_body Bd
  have e0 : s₁.heap = h0 := by rw [← hh, Bd.state]; rfl
  have N0 := Fr.nil n0
  have pre0 : ∀ t, Steps p.tables e below (s₁.setTop (mkF m 0 #[oR r0] [])) t → Steps p.tables e below (s₁.setTop (entryFrame m #[(.ref r0)] 1)) t := fun t k => castTop (ef_hn1 m r0) k
  obtain ⟨T101, X101, e101, st101⟩ := getF X0 hx hZ hown (host := "") (Or.inl (own_w hw 183 rfl)) Via.refl e0 F_cursor_r0 (g := (mkF m 1 #[oR r0] [(.ref r0)])) rfl rfl (hb hby d26_1)
  obtain ⟨T102, X102, e102, st102⟩ := getF X101 hx hZ hown (host := "") (Or.inl (own_w hw 166 rfl)) Via.refl e101 F_this_0_r0 (g := (mkF m 5 #[oR r0] [(.ref r0), (.int cc)])) rfl rfl (hb hby d26_5)
  obtain ⟨T103, X103, e103, st103⟩ := getF X102 hx hZ hown (Or.inr (own_w hw 185 rfl)) Via.refl e102 F_size_la (g := (mkF m 8 #[oR r0] [(.ref la), (.int cc)])) rfl rfl (hb hby d26_8)
  obtain ⟨fs, hr, hrun, hended, hW, hsame⟩ := X103.leave (v := some (.int 1)) (fun h => by rw [Bd.returns] at h; cases h)
  refine ⟨_, _, pre0 _ ?_, hrun, hended, _, _, rfl, ?_, ⟨_, rfl⟩, hW, hsame.mono (by decide) (by decide)⟩
  · show own_S p e below s₁ m 0 #[oR r0] [] _
    refine XS.aloadN X0.here hx rfl (hb hby d26_0) rfl rfl ?_
    show own_S p e below s₁ m 1 _ [(.ref r0)] _
    refine st101 _ ?_
    show own_S p e below T101 m 4 _ [(.int cc)] _
    refine XS.aloadN X101.here hx rfl (hb hby d26_4) rfl rfl ?_
    show own_S p e below T101 m 5 _ [(.ref r0), (.int cc)] _
    refine st102 _ ?_
    show own_S p e below T102 m 8 _ [(.ref la), (.int cc)] _
    refine st103 _ ?_
    show own_S p e below T103 m 11 _ [(.int n), (.int cc)] _
    refine XS.icmpNo X103.here hx rfl (hb hby d26_11) rfl (feq (hq : ¬ (cc = n))).1 ?_
    refine XS.iconst X103.here hx rfl (hb hby d26_14) ?_
    refine XS.goto X103.here hx rfl (pc0 := 15) (pc' := 19) rfl (hb hby d26_15) (by decide) (by decide) ?_
    show own_S p e below T103 m 19 _ [(.int 1)] _
    exact retN X103 hx (t := .boolean) Bd.returns (by simp) (hb hby d26_19) hr
  · show Q_hn1 Z r0 la mc cc n wl h0 n0 _ T103.heap _
    rw [e103]
    exact ⟨rfl, N0, rfl⟩
theorem d26_18 : decode k26 18 = .ok (.iconst 0, 1) := by decide +kernel
theorem ef_hn0 (m : MethodId) (r0 : Addr) : entryFrame m #[(.ref r0)] 1 = mkF m 0 #[oR r0] [] := by first | (simp [entryFrame, mkF, argsToLocals, Value.category]; done) | rfl
def Q_hn0 (Z : State) (r0 : Addr) (la : Addr) (mc : Int32) (cc : Int32) (n : Int32) (wl : Value) (h0 : Heap) (n0 : Nat) (v : Option Value) (h : Heap) (L : List Loc) : Prop := v = some (.int 0) ∧ Fr n0 L ∧ (h = h0)
set_option maxRecDepth 65536 in
set_option maxHeartbeats 40000000 in
theorem rm_hn0 (l : Launch) (Z : State) (a0 : Array Value) (hw : own_HW Z a0) (ws : List Jvm.Cond) (r0 : Addr) (la : Addr) (mc : Int32) (cc : Int32) (n : Int32) (wl : Value) (h0 : Heap) (n0 : Nat) (Z0 : n0 ≤ h0.size) (F_cursor_r0 : Fld Z h0 r0 kITR "cursor" "I" (.int cc)) (F_lastRet_r0 : Fld Z h0 r0 kITR "lastRet" "I" wl) (F_expectedModCount_r0 : Fld Z h0 r0 kITR "expectedModCount" "I" (.int mc)) (F_this_0_r0 : Fld Z h0 r0 kITR "this$0" "Ljava/util/ArrayList;" (.ref la)) (F_size_la : Fld Z h0 la kAL "size" "I" (.int n)) (hq : cc = n) :
    MetFree l (⟨kITR, "hasNext", "()Z"⟩ : MethodName) (head1 (Jvm.Cond.code (⟨kITR, "hasNext", "()Z"⟩ : MethodName) jdk_49_method_2_code 1 (some .boolean) :: ws) ({ frames := 0, cells := 0, slots := 0, locals := 0 } : Room)) (fun a U => a = #[(.ref r0)] ∧ Z.Warmed39 U.vm ∧ U.heap = h0) (fun _ _ _ _ _ => True) (fun _ U o U' => ∃ v L, o = .returned v ∧ Q_hn0 Z r0 la mc cc n wl h0 n0 v U'.heap L ∧ FrameEnd U o U' L ({ frames := 0, cells := 0, slots := 0, locals := 0 } : Room).cells ({ frames := 0, cells := 0, slots := 0, locals := 0 } : Room).slots) := by
  refine MetFree.of_bodySF (plainFor_of_name pn7) hisR ?_
  intro p e s m args below meth c s₁ Bd hml0 hP hK
  obtain ⟨rfl, hZ, hh⟩ := hP
  have hx := Bd.exec
  have hby := Bd.bytes
  have hml : c.maxLocals = 1 := hml0
  have hown : s.vm.findClass kITR = some m.cls := findClass_of_methodNamed Bd.named
  have hnm := (name_of_methodNamed Bd.named Bd.method).1
  have X0 : Stand p l e ({ frames := 0, cells := 0, slots := 0, locals := 0 } : Room) s m #[(.ref r0)] below meth c s₁ [] 0 0 := Stand.of_body Bd
  have e0 : s₁.heap = h0 := by rw [← hh, Bd.state]; rfl
  have N0 := Fr.nil n0
  have pre0 : ∀ t, Steps p.tables e below (s₁.setTop (mkF m 0 #[oR r0] [])) t → Steps p.tables e below (s₁.setTop (entryFrame m #[(.ref r0)] 1)) t := fun t k => castTop (ef_hn0 m r0) k
  obtain ⟨T101, X101, e101, st101⟩ := getF X0 hx hZ hown (host := "") (Or.inl (own_w hw 183 rfl)) Via.refl e0 F_cursor_r0 (g := (mkF m 1 #[oR r0] [(.ref r0)])) rfl rfl (hb hby d26_1)
  obtain ⟨T102, X102, e102, st102⟩ := getF X101 hx hZ hown (host := "") (Or.inl (own_w hw 166 rfl)) Via.refl e101 F_this_0_r0 (g := (mkF m 5 #[oR r0] [(.ref r0), (.int cc)])) rfl rfl (hb hby d26_5)
  obtain ⟨T103, X103, e103, st103⟩ := getF X102 hx hZ hown (Or.inr (own_w hw 185 rfl)) Via.refl e102 F_size_la (g := (mkF m 8 #[oR r0] [(.ref la), (.int cc)])) rfl rfl (hb hby d26_8)
  obtain ⟨fs, hr, hrun, hended, hW, hsame⟩ := X103.leave (v := some (.int 0)) (fun h => by rw [Bd.returns] at h; cases h)
  refine ⟨_, _, pre0 _ ?_, hrun, hended, _, _, rfl, ?_, ⟨_, rfl⟩, hW, hsame.mono (by decide) (by decide)⟩
  · show own_S p e below s₁ m 0 #[oR r0] [] _
    refine XS.aloadN X0.here hx rfl (hb hby d26_0) rfl rfl ?_
    show own_S p e below s₁ m 1 _ [(.ref r0)] _
    refine st101 _ ?_
    show own_S p e below T101 m 4 _ [(.int cc)] _
    refine XS.aloadN X101.here hx rfl (hb hby d26_4) rfl rfl ?_
    show own_S p e below T101 m 5 _ [(.ref r0), (.int cc)] _
    refine st102 _ ?_
    show own_S p e below T102 m 8 _ [(.ref la), (.int cc)] _
    refine st103 _ ?_
    show own_S p e below T103 m 11 _ [(.int n), (.int cc)] _
    refine XS.icmpYes X103.here hx rfl (pc0 := 11) (pc' := 18) rfl (hb hby d26_11) rfl (teq (hq : cc = n)).1 (by decide) (by decide) ?_
    refine XS.iconst X103.here hx rfl (hb hby d26_18) ?_
    show own_S p e below T103 m 19 #[oR r0] [(.int 0)] _
    exact retN X103 hx (t := .boolean) Bd.returns (by simp) (hb hby d26_19) hr
  · show Q_hn0 Z r0 la mc cc n wl h0 n0 _ T103.heap _
    rw [e103]
    exact ⟨rfl, N0, rfl⟩
theorem d28_0 : decode k28 0 = .ok (.aload_n 0, 1) := by decide +kernel
theorem d28_1 : decode k28 1 = .ok (.getfield 1, 3) := by decide +kernel
theorem d28_4 : decode k28 4 = .ok (.getfield 17, 3) := by decide +kernel
theorem d28_7 : decode k28 7 = .ok (.aload_n 0, 1) := by decide +kernel
theorem d28_8 : decode k28 8 = .ok (.getfield 22, 3) := by decide +kernel
theorem d28_11 : decode k28 11 = .ok (.if_icmp .eq 11, 3) := by decide +kernel
theorem d28_22 : decode k28 22 = .ok (.return_, 1) := by decide +kernel
theorem efm28 (m : MethodId) (r0 : Addr) : entryFrame m #[(.ref r0)] 1 = mkF m 0 #[oR r0] [] := by first | (simp [entryFrame, mkF, argsToLocals, Value.category]; done) | rfl
def Qm28 (Z : State) (r0 : Addr) (la : Addr) (mc : Int32) (h0 : Heap) (n0 : Nat) (v : Option Value) (h : Heap) (L : List Loc) : Prop := v = none ∧ Fr n0 L ∧ (h = h0)
set_option maxRecDepth 65536 in
set_option maxHeartbeats 40000000 in
theorem rmm28 (l : Launch) (Z : State) (a0 : Array Value) (hw : own_HW Z a0) (ws : List Jvm.Cond) (r0 : Addr) (la : Addr) (mc : Int32) (h0 : Heap) (n0 : Nat) (Z0 : n0 ≤ h0.size) (F_expectedModCount_r0 : Fld Z h0 r0 kITR "expectedModCount" "I" (.int mc)) (F_this_0_r0 : Fld Z h0 r0 kITR "this$0" "Ljava/util/ArrayList;" (.ref la)) (F_modCount_la : Fld Z h0 la kABL "modCount" "I" (.int mc)) :
    MetFree l (⟨kITR, "checkForComodification", "()V"⟩ : MethodName) (head1 (Jvm.Cond.code (⟨kITR, "checkForComodification", "()V"⟩ : MethodName) jdk_49_method_6_code 1 none :: ws) ({ frames := 0, cells := 0, slots := 0, locals := 0 } : Room)) (fun a U => a = #[(.ref r0)] ∧ Z.Warmed39 U.vm ∧ U.heap = h0) (fun _ _ _ _ _ => True) (fun _ U o U' => ∃ v L, o = .returned v ∧ Qm28 Z r0 la mc h0 n0 v U'.heap L ∧ FrameEnd U o U' L ({ frames := 0, cells := 0, slots := 0, locals := 0 } : Room).cells ({ frames := 0, cells := 0, slots := 0, locals := 0 } : Room).slots) := by
  refine MetFree.of_bodySF (plainFor_of_name pn7) hisR ?_
  intro p e s m args below meth c s₁ Bd hml0 hP hK
  obtain ⟨rfl, hZ, hh⟩ := hP
  have hx := Bd.exec
  have hby := Bd.bytes
  have hml : c.maxLocals = 1 := hml0
  have hown : s.vm.findClass kITR = some m.cls := findClass_of_methodNamed Bd.named
  have hnm := (name_of_methodNamed Bd.named Bd.method).1
  have X0 : Stand p l e ({ frames := 0, cells := 0, slots := 0, locals := 0 } : Room) s m #[(.ref r0)] below meth c s₁ [] 0 0 := Stand.of_body Bd
  have e0 : s₁.heap = h0 := by rw [← hh, Bd.state]; rfl
  have N0 := Fr.nil n0
  have pre0 : ∀ t, Steps p.tables e below (s₁.setTop (mkF m 0 #[oR r0] [])) t → Steps p.tables e below (s₁.setTop (entryFrame m #[(.ref r0)] 1)) t := fun t k => castTop (efm28 m r0) k
  obtain ⟨T101, X101, e101, st101⟩ := getF X0 hx hZ hown (host := "") (Or.inl (own_w hw 166 rfl)) Via.refl e0 F_this_0_r0 (g := (mkF m 1 #[oR r0] [(.ref r0)])) rfl rfl (hb hby d28_1)
  obtain ⟨T102, X102, e102, st102⟩ := getF X101 hx hZ hown (host := "") (Or.inl (own_w hw 171 rfl)) (Via.of (own_w hw 59 rfl)) e101 F_modCount_la (g := (mkF m 4 #[oR r0] [(.ref la)])) rfl rfl (hb hby d28_4)
  obtain ⟨T103, X103, e103, st103⟩ := getF X102 hx hZ hown (host := "") (Or.inl (own_w hw 172 rfl)) Via.refl e102 F_expectedModCount_r0 (g := (mkF m 8 #[oR r0] [(.ref r0), (.int mc)])) rfl rfl (hb hby d28_8)
  obtain ⟨fs, hr, hrun, hended, hW, hsame⟩ := X103.leave (v := none) (fun _ => rfl)
  refine ⟨_, _, pre0 _ ?_, hrun, hended, _, _, rfl, ?_, ⟨_, rfl⟩, hW, hsame.mono (by decide) (by decide)⟩
  · show own_S p e below s₁ m 0 #[oR r0] [] _
    refine XS.aloadN X0.here hx rfl (hb hby d28_0) rfl rfl ?_
    show own_S p e below s₁ m 1 _ [(.ref r0)] _
    refine st101 _ ?_
    show own_S p e below T101 m 4 _ [(.ref la)] _
    refine st102 _ ?_
    show own_S p e below T102 m 7 _ [(.int mc)] _
    refine XS.aloadN X102.here hx rfl (hb hby d28_7) rfl rfl ?_
    show own_S p e below T102 m 8 _ [(.ref r0), (.int mc)] _
    refine st103 _ ?_
    show own_S p e below T103 m 11 _ [(.int mc), (.int mc)] _
    refine XS.icmpYes X103.here hx rfl (pc0 := 11) (pc' := 22) rfl (hb hby d28_11) rfl (teq (rfl : mc = mc)).1 (by decide) (by decide) ?_
    show own_S p e below T103 m 22 _ [] _
    exact X103.returnOut hx Bd.returns (hb hby d28_22) hr
  · show Qm28 Z r0 la mc h0 n0 _ T103.heap _
    rw [e103]
    exact ⟨rfl, N0, rfl⟩
theorem d27_0 : decode k27 0 = .ok (.aload_n 0, 1) := by decide +kernel
theorem d27_1 : decode k27 1 = .ok (.invokevirtual 31, 3) := by decide +kernel
theorem d27_4 : decode k27 4 = .ok (.aload_n 0, 1) := by decide +kernel
theorem d27_5 : decode k27 5 = .ok (.getfield 25, 3) := by decide +kernel
theorem d27_8 : decode k27 8 = .ok (.istore_n 1, 1) := by decide +kernel
theorem d27_9 : decode k27 9 = .ok (.iload_n 1, 1) := by decide +kernel
theorem d27_10 : decode k27 10 = .ok (.aload_n 0, 1) := by decide +kernel
theorem d27_11 : decode k27 11 = .ok (.getfield 1, 3) := by decide +kernel
theorem d27_14 : decode k27 14 = .ok (.getfield 28, 3) := by decide +kernel
theorem d27_17 : decode k27 17 = .ok (.if_icmp .lt 11, 3) := by decide +kernel
theorem d27_28 : decode k27 28 = .ok (.aload_n 0, 1) := by decide +kernel
theorem d27_29 : decode k27 29 = .ok (.getfield 1, 3) := by decide +kernel
theorem d27_32 : decode k27 32 = .ok (.getfield 37, 3) := by decide +kernel
theorem d27_35 : decode k27 35 = .ok (.astore_n 2, 1) := by decide +kernel
theorem d27_36 : decode k27 36 = .ok (.iload_n 1, 1) := by decide +kernel
theorem d27_37 : decode k27 37 = .ok (.aload_n 2, 1) := by decide +kernel
theorem d27_38 : decode k27 38 = .ok (.arraylength, 1) := by decide +kernel
theorem d27_39 : decode k27 39 = .ok (.if_icmp .lt 11, 3) := by decide +kernel
theorem d27_50 : decode k27 50 = .ok (.aload_n 0, 1) := by decide +kernel
theorem d27_51 : decode k27 51 = .ok (.iload_n 1, 1) := by decide +kernel
theorem d27_52 : decode k27 52 = .ok (.iconst 1, 1) := by decide +kernel
theorem d27_53 : decode k27 53 = .ok (.iadd, 1) := by decide +kernel
theorem d27_54 : decode k27 54 = .ok (.putfield 25, 3) := by decide +kernel
theorem d27_57 : decode k27 57 = .ok (.aload_n 2, 1) := by decide +kernel
theorem d27_58 : decode k27 58 = .ok (.aload_n 0, 1) := by decide +kernel
theorem d27_59 : decode k27 59 = .ok (.iload_n 1, 1) := by decide +kernel
theorem d27_60 : decode k27 60 = .ok (.dup_x1, 1) := by decide +kernel
theorem d27_61 : decode k27 61 = .ok (.putfield 13, 3) := by decide +kernel
theorem d27_64 : decode k27 64 = .ok (.aaload, 1) := by decide +kernel
theorem d27_65 : decode k27 65 = .ok (.areturn, 1) := by decide +kernel
theorem efm27 (m : MethodId) (r0 : Addr) : entryFrame m #[(.ref r0)] 3 = mkF m 0 #[oR r0, oU, oU] [] := by first | (simp [entryFrame, mkF, argsToLocals, Value.category]; done) | rfl
def Qm27 (Z : State) (r0 : Addr) (la : Addr) (mc : Int32) (cc : Int32) (n : Int32) (wl : Value) (el : Addr) (x : Addr) (kel : ClassId) (cap : Int32) (vs : List Value) (h0 : Heap) (n0 : Nat) (v : Option Value) (h : Heap) (L : List Loc) : Prop := v = some (.ref x) ∧ Fr n0 L ∧ (Keep h0 h [r0]) ∧ (Fld Z h r0 kITR "cursor" "I" (.int (cc + (1 : Int32)))) ∧ (Fld Z h r0 kITR "lastRet" "I" (.int cc)) ∧ (Fld Z h r0 kITR "expectedModCount" "I" (.int mc)) ∧ (Fld Z h r0 kITR "this$0" "Ljava/util/ArrayList;" (.ref la))
set_option maxRecDepth 65536 in
set_option maxHeartbeats 40000000 in
theorem rmm27 (l : Launch) (Z : State) (a0 : Array Value) (hw : own_HW Z a0) (ws : List Jvm.Cond) (r0 : Addr) (la : Addr) (mc : Int32) (cc : Int32) (n : Int32) (wl : Value) (el : Addr) (x : Addr) (kel : ClassId) (cap : Int32) (vs : List Value) (h0 : Heap) (n0 : Nat) (Z0 : n0 ≤ h0.size) (E_r0 : Exa Z h0 r0 kITR) (E_la : Exa Z h0 la kAL) (g_r0 : n0 ≤ r0) (F_cursor_r0 : Fld Z h0 r0 kITR "cursor" "I" (.int cc)) (F_lastRet_r0 : Fld Z h0 r0 kITR "lastRet" "I" wl) (F_expectedModCount_r0 : Fld Z h0 r0 kITR "expectedModCount" "I" (.int mc)) (F_this_0_r0 : Fld Z h0 r0 kITR "this$0" "Ljava/util/ArrayList;" (.ref la)) (F_size_la : Fld Z h0 la kAL "size" "I" (.int n)) (F_modCount_la : Fld Z h0 la kABL "modCount" "I" (.int mc)) (F_elementData_la : Fld Z h0 la kAL "elementData" kOA (.ref el)) (V_el : Arv Z h0 el kel (.object kOB) cap vs .null) (E_el : Exa Z h0 el kOA) (h1 : cc < n) (h2 : cc < cap) (hin : ¬ cc < (0 : Int32) ∧ cc < cap) (hg : vs.getD cc.toNatClampNeg .null = .ref x) :
    MetFree l (⟨kITR, "next", "()Ljava/lang/Object;"⟩ : MethodName) (head1 (Jvm.Cond.code (⟨kITR, "next", "()Ljava/lang/Object;"⟩ : MethodName) jdk_49_method_3_code 3 (some (.object kOB)) :: ws) ({ frames := 1, cells := 0, slots := 0, locals := 12 } : Room)) (fun a U => a = #[(.ref r0)] ∧ Z.Warmed39 U.vm ∧ U.heap = h0) (fun _ _ _ _ _ => True) (fun _ U o U' => ∃ v L, o = .returned v ∧ Qm27 Z r0 la mc cc n wl el x kel cap vs h0 n0 v U'.heap L ∧ FrameEnd U o U' L ({ frames := 1, cells := 0, slots := 0, locals := 12 } : Room).cells ({ frames := 1, cells := 0, slots := 0, locals := 12 } : Room).slots) := by
  refine MetFree.of_bodySF (plainFor_of_name pn7) hisR ?_
  intro p e s m args below meth c s₁ Bd hml0 hP hK
  obtain ⟨rfl, hZ, hh⟩ := hP
  have hx := Bd.exec
  have hby := Bd.bytes
  have hml : c.maxLocals = 3 := hml0
  have hown : s.vm.findClass kITR = some m.cls := findClass_of_methodNamed Bd.named
  have hnm := (name_of_methodNamed Bd.named Bd.method).1
  have X0 : Stand p l e ({ frames := 1, cells := 0, slots := 0, locals := 12 } : Room) s m #[(.ref r0)] below meth c s₁ [] 0 0 := Stand.of_body Bd
  have e0 : s₁.heap = h0 := by rw [← hh, Bd.state]; rfl
  have N0 := Fr.nil n0
  have pre0 : ∀ t, Steps p.tables e below (s₁.setTop (mkF m 0 #[oR r0, oU, oU] [])) t → Steps p.tables e below (s₁.setTop (entryFrame m #[(.ref r0)] 3)) t := fun t k => castTop (efm27 m r0) k
  obtain ⟨_, T101, L101, X101, hQ101, st101⟩ := own_cV X0 hx hZ hw hown (b := r0) (W := 0) (rmm28 l Z a0 hw [] r0 la mc h0 n0 Z0 F_expectedModCount_r0 F_this_0_r0 F_modCount_la) (by decide) (by decide) (by decide) 194 rfl 195 rfl 197 rfl 196 rfl 198 rfl 161 rfl e0 E_r0 (g := (mkF m 1 #[oR r0, oU, oU] [(.ref r0)])) rfl (by rw [hml]; rfl) (argsL := []) (rest := []) (lenOf pd0 rfl) rfl (Nat.le_of_eq rfl) (hb hby d27_1) rfl (cN := 0) rfl (by decide) (sN := 0) rfl (by decide)
  obtain ⟨rfl, Nq101, P101_0⟩ := hQ101
  have N101 := Fr.app N0 Nq101
  obtain ⟨T102, X102, e102, st102⟩ := getF X101 hx hZ hown (host := "") (Or.inl (own_w hw 183 rfl)) Via.refl P101_0 F_cursor_r0 (g := (mkF m 5 #[oR r0, oU, oU] [(.ref r0)])) rfl rfl (hb hby d27_5)
  obtain ⟨T103, X103, e103, st103⟩ := getF X102 hx hZ hown (host := "") (Or.inl (own_w hw 166 rfl)) Via.refl e102 F_this_0_r0 (g := (mkF m 11 #[oR r0, oI cc, oU] [(.ref r0), (.int cc)])) rfl rfl (hb hby d27_11)
  obtain ⟨T104, X104, e104, st104⟩ := getF X103 hx hZ hown (Or.inr (own_w hw 185 rfl)) Via.refl e103 F_size_la (g := (mkF m 14 #[oR r0, oI cc, oU] [(.ref la), (.int cc)])) rfl rfl (hb hby d27_14)
  obtain ⟨T105, X105, e105, st105⟩ := getF X104 hx hZ hown (host := "") (Or.inl (own_w hw 166 rfl)) Via.refl e104 F_this_0_r0 (g := (mkF m 29 #[oR r0, oI cc, oU] [(.ref r0)])) rfl rfl (hb hby d27_29)
  obtain ⟨T106, X106, e106, st106⟩ := getF X105 hx hZ hown (host := "") (Or.inl (own_w hw 199 rfl)) Via.refl e105 F_elementData_la (g := (mkF m 32 #[oR r0, oI cc, oU] [(.ref la)])) rfl rfl (hb hby d27_32)
  obtain ⟨cl107, Ar107, qk107, Sz107, Nz107, Hh107, Gg107⟩ := id V_el
  obtain ⟨T108, h108, X108, e108, W108, st108⟩ := putF X106 hx hZ hown (host := "") (Or.inl (own_w hw 183 rfl)) Via.refl e106 F_cursor_r0 E_r0 (Or.inl (own_w hw 184 rfl)) (own_w hw 160 rfl) (ty := .int) (by decide) rfl rfl (g := (mkF m 54 #[oR r0, oI cc, oR el] [(.int (cc + (1 : Int32))), (.ref r0)])) rfl rfl (hb hby d27_54)
  have Fw108 := F_cursor_r0.same W108
  have N108 := Fr.snoc X108 N101 g_r0
  have ZZ109 : n0 ≤ h108.size := Nat.le_trans Z0 (Nat.le_of_eq W108.size.symm)
  have KK110 : Keep h0 h108 [r0] := (Keep.refl h0 [r0]).wr W108 (Or.inl (List.mem_of_getElem? (i := 0) rfl))
  have Fc111 := (F_lastRet_r0.other W108 (Or.inr (Ne.symm (sn7 hw))))
  obtain ⟨T112, h112, X112, e112, W112, st112⟩ := putF X108 hx hZ hown (host := "") (Or.inl (own_w hw 169 rfl)) Via.refl e108 Fc111 (E_r0.wr W108) (Or.inl (own_w hw 170 rfl)) (own_w hw 160 rfl) (ty := .int) (by decide) rfl rfl (g := (mkF m 61 #[oR r0, oI cc, oR el] [(.int cc), (.ref r0), (.int cc), (.ref el)])) rfl rfl (hb hby d27_61)
  have Fw112 := Fc111.same W112
  have N112 := Fr.snoc X112 N108 g_r0
  have ZZ113 : n0 ≤ h112.size := Nat.le_trans ZZ109 (Nat.le_of_eq W112.size.symm)
  have KK114 : Keep h0 h112 [r0] := KK110.wr W112 (Or.inl (List.mem_of_getElem? (i := 0) rfl))
  have Fc115 := (E_el.keep KK114)
  have nq116 : el ≠ r0 := (ne_exa Fc115 ((E_r0.wr W108).wr W112) (by decide))
  have Fc117 := (V_el.keep KK114 (ninS nq116 nin0))
  obtain ⟨cl118, Ar118, qk118, Sz118, Nz118, Hh118, Gg118⟩ := id Fc117
  have hin119 : ¬ (cc < 0 ∨ cl118.slots.size ≤ (cc).toNatClampNeg) := inb_of Sz118 hin
  have hat119 : cl118.slots[(cc).toNatClampNeg]? = some (.ref x) := Has.at Hh118 hin119 hg
  obtain ⟨fs, hr, hrun, hended, hW, hsame⟩ := X112.leave (v := some (.ref x)) (fun h => by rw [Bd.returns] at h; cases h)
  refine ⟨_, _, pre0 _ ?_, hrun, hended, _, _, rfl, ?_, ⟨_, rfl⟩, hW, hsame.mono (by decide) (by decide)⟩
  · show own_S p e below s₁ m 0 #[oR r0, oU, oU] [] _
    refine XS.aloadN X0.here hx rfl (hb hby d27_0) rfl rfl ?_
    show own_S p e below s₁ m 1 _ [(.ref r0)] _
    refine st101.trans ?_
    show own_S p e below T101 m 4 _ [] _
    refine XS.aloadN X101.here hx rfl (hb hby d27_4) rfl rfl ?_
    show own_S p e below T101 m 5 _ [(.ref r0)] _
    refine st102 _ ?_
    show own_S p e below T102 m 8 _ [(.int cc)] _
    refine XS.istoreN X102.here hx rfl (hb hby d27_8) rfl (l' := #[oR r0, oI cc, oU]) rfl ?_
    refine XS.iloadN X102.here hx rfl (hb hby d27_9) rfl ?_
    refine XS.aloadN X102.here hx rfl (hb hby d27_10) rfl rfl ?_
    show own_S p e below T102 m 11 _ [(.ref r0), (.int cc)] _
    refine st103 _ ?_
    show own_S p e below T103 m 14 _ [(.ref la), (.int cc)] _
    refine st104 _ ?_
    show own_S p e below T104 m 17 _ [(.int n), (.int cc)] _
    refine XS.icmpYes X104.here hx rfl (pc0 := 17) (pc' := 28) rfl (hb hby d27_17) rfl (tlt (h1 : cc < n)).1 (by decide) (by decide) ?_
    refine XS.aloadN X104.here hx rfl (hb hby d27_28) rfl rfl ?_
    show own_S p e below T104 m 29 _ [(.ref r0)] _
    refine st105 _ ?_
    show own_S p e below T105 m 32 #[oR r0, oI cc, oU] [(.ref la)] _
    refine st106 _ ?_
    show own_S p e below T106 m 35 _ [(.ref el)] _
    refine XS.astoreN X106.here hx rfl (hb hby d27_35) rfl rfl (l' := #[oR r0, oI cc, oR el]) rfl ?_
    refine XS.iloadN X106.here hx rfl (hb hby d27_36) rfl ?_
    refine XS.aloadN X106.here hx rfl (hb hby d27_37) rfl rfl ?_
    show own_S p e below T106 m 38 _ [(.ref el), (.int cc)] _
    refine X106.arraylength hx (by rw [e106]; exact Ar107.1) (State.isArrayOf_alike hZ.alike Ar107.2.1) (g := (mkF m 38 #[oR r0, oI cc, oR el] [(.ref el), (.int cc)])) rfl rfl (hb hby d27_38) _ ?_
    rw [len_of Sz107 Nz107]
    show own_S p e below T106 m 39 _ [(.int cap), (.int cc)] _
    refine XS.icmpYes X106.here hx rfl (pc0 := 39) (pc' := 50) rfl (hb hby d27_39) rfl (tlt (h2 : cc < cap)).1 (by decide) (by decide) ?_
    refine XS.aloadN X106.here hx rfl (hb hby d27_50) rfl rfl ?_
    refine XS.iloadN X106.here hx rfl (hb hby d27_51) rfl ?_
    refine XS.iconst X106.here hx rfl (hb hby d27_52) ?_
    show own_S p e below T106 m 53 #[oR r0, oI cc, oR el] [(.int 1), (.int cc), (.ref r0)] _
    refine XS.iadd X106.here hx rfl (hb hby d27_53) rfl ?_
    show own_S p e below T106 m 54 _ [(.int (cc + (1 : Int32))), (.ref r0)] _
    refine st108 _ ?_
    show own_S p e below T108 m 57 _ [] _
    refine XS.aloadN X108.here hx rfl (hb hby d27_57) rfl rfl ?_
    refine XS.aloadN X108.here hx rfl (hb hby d27_58) rfl rfl ?_
    refine XS.iloadN X108.here hx rfl (hb hby d27_59) rfl ?_
    show own_S p e below T108 m 60 _ [(.int cc), (.ref r0), (.ref el)] _
    refine XS.dupX1 X108.here hx rfl (hb hby d27_60) rfl rfl rfl ?_
    show own_S p e below T108 m 61 _ [(.int cc), (.ref r0), (.int cc), (.ref el)] _
    refine st112 _ ?_
    show own_S p e below T112 m 64 #[oR r0, oI cc, oR el] [(.int cc), (.ref el)] _
    refine X112.aaload hx (j := cc) (v := (.ref x)) (by rw [e112]; exact Ar118.1) (State.isArrayOf_alike hZ.alike Ar118.2.1) rfl Ar118.2.2 hin119 hat119 (g := (mkF m 64 #[oR r0, oI cc, oR el] [(.int cc), (.ref el)])) rfl rfl (hb hby d27_64) _ ?_
    show own_S p e below T112 m 65 _ [(.ref x)] _
    exact retOut X112 hx Bd.returns rfl (Or.inr (Or.inr (Or.inr (Or.inr ⟨rfl, rfl, rfl⟩)))) (hb hby d27_65) hr
  · show Qm27 Z r0 la mc cc n wl el x kel cap vs h0 n0 _ T112.heap _
    rw [e112]
    exact ⟨rfl, N112, KK114, (Fw108.other W112 (Or.inr (sn7 hw))), Fw112, ((F_expectedModCount_r0.other W108 (Or.inr (Ne.symm (sn8 hw)))).other W112 (Or.inr (sn5 hw))), ((F_this_0_r0.other W108 (Or.inr (Ne.symm (sn6 hw)))).other W112 (Or.inr (Ne.symm (sn3 hw))))⟩
theorem d29_0 : decode jdk_117_method_19_code 0 = .ok (.aload_n 0, 1) := by decide +kernel
theorem d29_1 : decode jdk_117_method_19_code 1 = .ok (.getfield 118, 3) := by decide +kernel
theorem d29_4 : decode jdk_117_method_19_code 4 = .ok (.dreturn, 1) := by decide +kernel
theorem efm29 (m : MethodId) (r0 : Addr) : entryFrame m #[(.ref r0)] 1 = mkF m 0 #[oR r0] [] := by first | (simp [entryFrame, mkF, argsToLocals, Value.category]; done) | rfl
def Qm29 (Z : State) (r0 : Addr) (d : UInt64) (h0 : Heap) (n0 : Nat) (v : Option Value) (h : Heap) (L : List Loc) : Prop := v = some (.double d) ∧ Fr n0 L ∧ (h = h0)
set_option maxRecDepth 65536 in
set_option maxHeartbeats 40000000 in
theorem rmm29 (l : Launch) (Z : State) (a0 : Array Value) (hw : own_HW Z a0) (ws : List Jvm.Cond) (r0 : Addr) (d : UInt64) (h0 : Heap) (n0 : Nat) (Z0 : n0 ≤ h0.size) (F_value_r0 : Fld Z h0 r0 kDB "value" "D" (.double d)) :
    MetFree l (⟨kDB, "doubleValue", "()D"⟩ : MethodName) (head1 (Jvm.Cond.code (⟨kDB, "doubleValue", "()D"⟩ : MethodName) jdk_117_method_19_code 1 (some .double) :: ws) ({ frames := 0, cells := 0, slots := 0, locals := 0 } : Room)) (fun a U => a = #[(.ref r0)] ∧ Z.Warmed39 U.vm ∧ U.heap = h0) (fun _ _ _ _ _ => True) (fun _ U o U' => ∃ v L, o = .returned v ∧ Qm29 Z r0 d h0 n0 v U'.heap L ∧ FrameEnd U o U' L ({ frames := 0, cells := 0, slots := 0, locals := 0 } : Room).cells ({ frames := 0, cells := 0, slots := 0, locals := 0 } : Room).slots) := by
  refine MetFree.of_bodySF (plainFor_of_name pn4) hisR ?_
  intro p e s m args below meth c s₁ Bd hml0 hP hK
  obtain ⟨rfl, hZ, hh⟩ := hP
  have hx := Bd.exec
  have hby := Bd.bytes
  have hml : c.maxLocals = 1 := hml0
  have hown : s.vm.findClass kDB = some m.cls := findClass_of_methodNamed Bd.named
  have hnm := (name_of_methodNamed Bd.named Bd.method).1
  have X0 : Stand p l e ({ frames := 0, cells := 0, slots := 0, locals := 0 } : Room) s m #[(.ref r0)] below meth c s₁ [] 0 0 := Stand.of_body Bd
  have e0 : s₁.heap = h0 := by rw [← hh, Bd.state]; rfl
  have N0 := Fr.nil n0
  have pre0 : ∀ t, Steps p.tables e below (s₁.setTop (mkF m 0 #[oR r0] [])) t → Steps p.tables e below (s₁.setTop (entryFrame m #[(.ref r0)] 1)) t := fun t k => castTop (efm29 m r0) k
  obtain ⟨T101, X101, e101, st101⟩ := getF X0 hx hZ hown (host := "") (Or.inl (own_w hw 47 rfl)) Via.refl e0 F_value_r0 (g := (mkF m 1 #[oR r0] [(.ref r0)])) rfl rfl (hb hby d29_1)
  obtain ⟨fs, hr, hrun, hended, hW, hsame⟩ := X101.leave (v := some (.double d)) (fun h => by rw [Bd.returns] at h; cases h)
  refine ⟨_, _, pre0 _ ?_, hrun, hended, _, _, rfl, ?_, ⟨_, rfl⟩, hW, hsame.mono (by decide) (by decide)⟩
  · show own_S p e below s₁ m 0 #[oR r0] [] _
    refine XS.aloadN X0.here hx rfl (hb hby d29_0) rfl rfl ?_
    show own_S p e below s₁ m 1 _ [(.ref r0)] _
    refine st101 _ ?_
    show own_S p e below T101 m 4 _ [(.double d)] _
    exact retOut X101 hx Bd.returns rfl (Or.inr (Or.inr (Or.inl ⟨rfl, rfl, _, rfl⟩))) (hb hby d29_4) hr
  · show Qm29 Z r0 d h0 n0 _ T101.heap _
    rw [e101]
    exact ⟨rfl, N0, rfl⟩
theorem pd9 : parseMethodDescriptor "(D)D" = some ⟨[.double], some .double⟩ := by decide +kernel
theorem d30_0 : decode k30 0 = .ok (.dload_n 0, 1) := by decide +kernel
theorem d30_1 : decode k30 1 = .ok (.invokestatic 38, 3) := by decide +kernel
theorem d30_4 : decode k30 4 = .ok (.ldc2_w 111, 3) := by decide +kernel
theorem d30_7 : decode k30 7 = .ok (.dcmp .g, 1) := by decide +kernel
theorem d30_8 : decode k30 8 = .ok (.ifCond .gt 7, 3) := by decide +kernel
theorem d30_11 : decode k30 11 = .ok (.iconst 1, 1) := by decide +kernel
theorem d30_12 : decode k30 12 = .ok (.goto 4, 3) := by decide +kernel
theorem d30_16 : decode k30 16 = .ok (.ireturn, 1) := by decide +kernel
theorem efm30 (m : MethodId) (d0 : UInt64) : entryFrame m #[(.double d0)] 2 = mkF m 0 #[oD d0, oV] [] := by first | (simp [entryFrame, mkF, argsToLocals, Value.category]; done) | rfl
def Qm30 (Z : State) (d0 : UInt64) (h0 : Heap) (n0 : Nat) (v : Option Value) (h : Heap) (L : List Loc) : Prop := v = some (.int 1) ∧ Fr n0 L ∧ (h = h0)
set_option maxRecDepth 65536 in
set_option maxHeartbeats 40000000 in
theorem rmm30 (l : Launch) (Z : State) (a0 : Array Value) (hw : own_HW Z a0) (ws : List Jvm.Cond) (d0 : UInt64) (h0 : Heap) (n0 : Nat) (Z0 : n0 ≤ h0.size) (hnn : NoNaN64 d0) (hfi : ¬ (0 : Int32) < (cmpValue (FP.dcmp (d0 &&& 0x7fffffffffffffff) (9218868437227405311 : UInt64)) .g)) :
    MetFree l (⟨kDB, "isFinite", "(D)Z"⟩ : MethodName) (head1 (Jvm.Cond.code (⟨kDB, "isFinite", "(D)Z"⟩ : MethodName) jdk_117_method_8_code 2 (some .boolean) :: ws) ({ frames := 1, cells := 0, slots := 0, locals := 13 } : Room)) (fun a U => a = #[(.double d0)] ∧ Z.Warmed39 U.vm ∧ U.heap = h0) (fun _ _ _ _ _ => True) (fun _ U o U' => ∃ v L, o = .returned v ∧ Qm30 Z d0 h0 n0 v U'.heap L ∧ FrameEnd U o U' L ({ frames := 1, cells := 0, slots := 0, locals := 13 } : Room).cells ({ frames := 1, cells := 0, slots := 0, locals := 13 } : Room).slots) := by
  refine MetFree.of_bodySF (plainFor_of_name pn4) hisR ?_
  intro p e s m args below meth c s₁ Bd hml0 hP hK
  obtain ⟨rfl, hZ, hh⟩ := hP
  have hx := Bd.exec
  have hby := Bd.bytes
  have hml : c.maxLocals = 2 := hml0
  have hown : s.vm.findClass kDB = some m.cls := findClass_of_methodNamed Bd.named
  have hnm := (name_of_methodNamed Bd.named Bd.method).1
  have X0 : Stand p l e ({ frames := 1, cells := 0, slots := 0, locals := 13 } : Room) s m #[(.double d0)] below meth c s₁ [] 0 0 := Stand.of_body Bd
  have e0 : s₁.heap = h0 := by rw [← hh, Bd.state]; rfl
  have N0 := Fr.nil n0
  have pre0 : ∀ t, Steps p.tables e below (s₁.setTop (mkF m 0 #[oD d0, oV] [])) t → Steps p.tables e below (s₁.setTop (entryFrame m #[(.double d0)] 2)) t := fun t k => castTop (efm30 m d0) k
  obtain ⟨T101, X101, e101, st101⟩ := natS X0 hx hZ hown (own_w hw 209 rfl) (own_w hw 210 rfl) (own_w hw 79 rfl) (own_w hw 211 rfl) (by decide) e0 (W := 0) (fun q => Jvm.Free.Fl.Abs.absD_pays d0 q (by decide) (by decide)) (g := (mkF m 1 #[oD d0, oV] [(.double d0)])) rfl (by rw [hml]; rfl) (argsL := [(.double d0)]) (rest := []) (lenOf pd9 rfl) rfl (by show 2 * 0 + _ ≤ _; exact Nat.le_of_eq rfl) (hb hby d30_1) (by decide) (by decide) ⟨rfl, hnn⟩ rfl
  obtain ⟨fs, hr, hrun, hended, hW, hsame⟩ := X101.leave (v := some (.int 1)) (fun h => by rw [Bd.returns] at h; cases h)
  refine ⟨_, _, pre0 _ ?_, hrun, hended, _, _, rfl, ?_, ⟨_, rfl⟩, hW, hsame.mono (by decide) (by decide)⟩
  · show own_S p e below s₁ m 0 #[oD d0, oV] [] _
    refine XS.dloadN X0.here hx rfl (hb hby d30_0) rfl ?_
    show own_S p e below s₁ m 1 _ [(.double d0)] _
    refine st101 _ ?_
    show own_S p e below T101 m 4 _ [(.double (d0 &&& 0x7fffffffffffffff))] _
    refine X101.ldc2DoubleC hx hown (mvT hZ (own_w hw 212 rfl)) (g := (mkF m 4 #[oD d0, oV] [(.double (d0 &&& 0x7fffffffffffffff))])) rfl (hb hby d30_4) _ ?_
    show own_S p e below T101 m 7 _ [(.double 9218868437227405311), (.double (d0 &&& 0x7fffffffffffffff))] _
    refine XS.dcmpS X101.here hx rfl (v := (cmpValue (FP.dcmp (d0 &&& 0x7fffffffffffffff) (9218868437227405311 : UInt64)) .g)) (hb hby d30_7) rfl rfl ?_
    show own_S p e below T101 m 8 _ [(.int (cmpValue (FP.dcmp (d0 &&& 0x7fffffffffffffff) (9218868437227405311 : UInt64)) .g))] _
    refine XS.ifNo X101.here hx rfl (hb hby d30_8) rfl ((if0 _ _).trans (flt (hfi : ¬ ((0 : Int32) < (cmpValue (FP.dcmp (d0 &&& 0x7fffffffffffffff) (9218868437227405311 : UInt64)) .g)))).2.2.1) ?_
    refine XS.iconst X101.here hx rfl (hb hby d30_11) ?_
    refine XS.goto X101.here hx rfl (pc0 := 12) (pc' := 16) rfl (hb hby d30_12) (by decide) (by decide) ?_
    show own_S p e below T101 m 16 #[oD d0, oV] [(.int 1)] _
    exact retN X101 hx (t := .boolean) Bd.returns (by simp) (hb hby d30_16) hr
  · show Qm30 Z d0 h0 n0 _ T101.heap _
    rw [e101]
    exact ⟨rfl, N0, rfl⟩
theorem d40_0 : decode k40 0 = .ok (.aload_n 0, 1) := by decide +kernel
theorem d40_1 : decode k40 1 = .ok (.ifnonnull 11, 3) := by decide +kernel
theorem d40_12 : decode k40 12 = .ok (.aload_n 0, 1) := by decide +kernel
theorem d40_13 : decode k40 13 = .ok (.areturn, 1) := by decide +kernel
theorem efm40 (m : MethodId) (r0 : Addr) : entryFrame m #[(.ref r0)] 1 = mkF m 0 #[oR r0] [] := by first | (simp [entryFrame, mkF, argsToLocals, Value.category]; done) | rfl
def Qm40 (Z : State) (r0 : Addr) (h0 : Heap) (n0 : Nat) (v : Option Value) (h : Heap) (L : List Loc) : Prop := v = some (.ref r0) ∧ Fr n0 L ∧ (h = h0)
set_option maxRecDepth 65536 in
set_option maxHeartbeats 40000000 in
theorem rmm40 (l : Launch) (Z : State) (a0 : Array Value) (hw : own_HW Z a0) (ws : List Jvm.Cond) (r0 : Addr) (h0 : Heap) (n0 : Nat) (Z0 : n0 ≤ h0.size)  :
    MetFree l (⟨"java/util/Objects", "requireNonNull", "(Ljava/lang/Object;)Ljava/lang/Object;"⟩ : MethodName) (head1 (Jvm.Cond.code (⟨"java/util/Objects", "requireNonNull", "(Ljava/lang/Object;)Ljava/lang/Object;"⟩ : MethodName) jdk_31_method_10_code 1 (some (.object kOB)) :: ws) ({ frames := 0, cells := 0, slots := 0, locals := 0 } : Room)) (fun a U => a = #[(.ref r0)] ∧ Z.Warmed39 U.vm ∧ U.heap = h0) (fun _ _ _ _ _ => True) (fun _ U o U' => ∃ v L, o = .returned v ∧ Qm40 Z r0 h0 n0 v U'.heap L ∧ FrameEnd U o U' L ({ frames := 0, cells := 0, slots := 0, locals := 0 } : Room).cells ({ frames := 0, cells := 0, slots := 0, locals := 0 } : Room).slots) := by
  refine MetFree.of_bodySF (plainFor_of_name pn6) hisR ?_
  intro p e s m args below meth c s₁ Bd hml0 hP hK
  obtain ⟨rfl, hZ, hh⟩ := hP
  have hx := Bd.exec
  have hby := Bd.bytes
  have hml : c.maxLocals = 1 := hml0
  have hown : s.vm.findClass "java/util/Objects" = some m.cls := findClass_of_methodNamed Bd.named
  have hnm := (name_of_methodNamed Bd.named Bd.method).1
  have X0 : Stand p l e ({ frames := 0, cells := 0, slots := 0, locals := 0 } : Room) s m #[(.ref r0)] below meth c s₁ [] 0 0 := Stand.of_body Bd
  have e0 : s₁.heap = h0 := by rw [← hh, Bd.state]; rfl
  have N0 := Fr.nil n0
  have pre0 : ∀ t, Steps p.tables e below (s₁.setTop (mkF m 0 #[oR r0] [])) t → Steps p.tables e below (s₁.setTop (entryFrame m #[(.ref r0)] 1)) t := fun t k => castTop (efm40 m r0) k
  obtain ⟨fs, hr, hrun, hended, hW, hsame⟩ := X0.leave (v := some (.ref r0)) (fun h => by rw [Bd.returns] at h; cases h)
  refine ⟨_, _, pre0 _ ?_, hrun, hended, _, _, rfl, ?_, ⟨_, rfl⟩, hW, hsame.mono (by decide) (by decide)⟩
  · show own_S p e below s₁ m 0 #[oR r0] [] _
    refine XS.aloadN X0.here hx rfl (hb hby d40_0) rfl rfl ?_
    show own_S p e below s₁ m 1 _ [(.ref r0)] _
    refine XS.ifnonnullYes X0.here hx rfl (pc0 := 1) (pc' := 12) rfl (hb hby d40_1) rfl (by decide) (by decide) ?_
    show own_S p e below s₁ m 12 _ [] _
    refine XS.aloadN X0.here hx rfl (hb hby d40_12) rfl rfl ?_
    show own_S p e below s₁ m 13 _ [(.ref r0)] _
    exact retOut X0 hx Bd.returns rfl (Or.inr (Or.inr (Or.inr (Or.inr ⟨rfl, rfl, rfl⟩)))) (hb hby d40_13) hr
  · show Qm40 Z r0 h0 n0 _ s₁.heap _
    rw [e0]
    exact ⟨rfl, N0, rfl⟩
theorem d16_0 : decode k16 0 = .ok (.aload_n 0, 1) := by decide +kernel
theorem d16_1 : decode k16 1 = .ok (.ifnonnull 12, 3) := by decide +kernel
theorem d16_13 : decode k16 13 = .ok (.aload_n 0, 1) := by decide +kernel
theorem d16_14 : decode k16 14 = .ok (.areturn, 1) := by decide +kernel
theorem efm16 (m : MethodId) (r0 : Addr) (r1 : Addr) : entryFrame m #[(.ref r0), (.ref r1)] 2 = mkF m 0 #[oR r0, oR r1] [] := by first | (simp [entryFrame, mkF, argsToLocals, Value.category]; done) | rfl
def Qm16 (Z : State) (r0 : Addr) (r1 : Addr) (h0 : Heap) (n0 : Nat) (v : Option Value) (h : Heap) (L : List Loc) : Prop := v = some (.ref r0) ∧ Fr n0 L ∧ (h = h0)
set_option maxRecDepth 65536 in
set_option maxHeartbeats 40000000 in
theorem rmm16 (l : Launch) (Z : State) (a0 : Array Value) (hw : own_HW Z a0) (ws : List Jvm.Cond) (r0 : Addr) (r1 : Addr) (h0 : Heap) (n0 : Nat) (Z0 : n0 ≤ h0.size)  :
    MetFree l (⟨"java/util/Objects", "requireNonNull", "(Ljava/lang/Object;Ljava/lang/String;)Ljava/lang/Object;"⟩ : MethodName) (head1 (Jvm.Cond.code (⟨"java/util/Objects", "requireNonNull", "(Ljava/lang/Object;Ljava/lang/String;)Ljava/lang/Object;"⟩ : MethodName) jdk_31_method_11_code 2 (some (.object kOB)) :: ws) ({ frames := 0, cells := 0, slots := 0, locals := 0 } : Room)) (fun a U => a = #[(.ref r0), (.ref r1)] ∧ Z.Warmed39 U.vm ∧ U.heap = h0) (fun _ _ _ _ _ => True) (fun _ U o U' => ∃ v L, o = .returned v ∧ Qm16 Z r0 r1 h0 n0 v U'.heap L ∧ FrameEnd U o U' L ({ frames := 0, cells := 0, slots := 0, locals := 0 } : Room).cells ({ frames := 0, cells := 0, slots := 0, locals := 0 } : Room).slots) := by
  refine MetFree.of_bodySF (plainFor_of_name pn6) hisR ?_
  intro p e s m args below meth c s₁ Bd hml0 hP hK
  obtain ⟨rfl, hZ, hh⟩ := hP
  have hx := Bd.exec
  have hby := Bd.bytes
  have hml : c.maxLocals = 2 := hml0
  have hown : s.vm.findClass "java/util/Objects" = some m.cls := findClass_of_methodNamed Bd.named
  have hnm := (name_of_methodNamed Bd.named Bd.method).1
  have X0 : Stand p l e ({ frames := 0, cells := 0, slots := 0, locals := 0 } : Room) s m #[(.ref r0), (.ref r1)] below meth c s₁ [] 0 0 := Stand.of_body Bd
  have e0 : s₁.heap = h0 := by rw [← hh, Bd.state]; rfl
  have N0 := Fr.nil n0
  have pre0 : ∀ t, Steps p.tables e below (s₁.setTop (mkF m 0 #[oR r0, oR r1] [])) t → Steps p.tables e below (s₁.setTop (entryFrame m #[(.ref r0), (.ref r1)] 2)) t := fun t k => castTop (efm16 m r0 r1) k
  obtain ⟨fs, hr, hrun, hended, hW, hsame⟩ := X0.leave (v := some (.ref r0)) (fun h => by rw [Bd.returns] at h; cases h)
  refine ⟨_, _, pre0 _ ?_, hrun, hended, _, _, rfl, ?_, ⟨_, rfl⟩, hW, hsame.mono (by decide) (by decide)⟩
  · show own_S p e below s₁ m 0 #[oR r0, oR r1] [] _
    refine XS.aloadN X0.here hx rfl (hb hby d16_0) rfl rfl ?_
    show own_S p e below s₁ m 1 _ [(.ref r0)] _
    refine XS.ifnonnullYes X0.here hx rfl (pc0 := 1) (pc' := 13) rfl (hb hby d16_1) rfl (by decide) (by decide) ?_
    show own_S p e below s₁ m 13 _ [] _
    refine XS.aloadN X0.here hx rfl (hb hby d16_13) rfl rfl ?_
    show own_S p e below s₁ m 14 _ [(.ref r0)] _
    exact retOut X0 hx Bd.returns rfl (Or.inr (Or.inr (Or.inr (Or.inr ⟨rfl, rfl, rfl⟩)))) (hb hby d16_14) hr
  · show Qm16 Z r0 r1 h0 n0 _ s₁.heap _
    rw [e0]
    exact ⟨rfl, N0, rfl⟩
def own_Mi (Z : State) (C : String) (mr : Addr) : Prop := ∃ (c : ClassId) (k : Class), Z.vm.findClass C = some c ∧ Z.vm.classes[c]? = some k ∧ k.mirror = some mr
section OwnMir
variable {p : Program} {l : Launch} {e : Env} {R : Room} {s : State} {m : MethodId} {args : Array Value} {below : List Frame} {meth : Method} {c : Code} {T : State} {locs : List Loc} {cells slots : Nat} {Z : State} {h : Heap} {a : Addr}
theorem own_miS {C : String} {mr : Addr} (M : own_Mi Z C mr) (hZ : Z.Warmed39 s.vm) : ∃ (c : ClassId) (k : Class), s.vm.findClass C = some c ∧ s.vm.classes[c]? = some k ∧ k.mirror = some mr := by
  obtain ⟨cc, kc, m1, m2, m3⟩ := M
  obtain ⟨k', q, ek⟩ := hZ.alike.2.2 _ _ m2
  exact ⟨cc, k', by rw [hZ.alike.findClass]; exact m1, q, by rw [ek]; exact m3⟩
theorem own_gcls (X : Stand p l e R s m args below meth c T locs cells slots) (hx : p.tables.exec = Jvm.exec) (hZ : Z.Warmed39 s.vm) {a0 : Array Value} {own C : String} {index : Nat} (hown : s.vm.findClass own = some m.cls)
    (w1 : (Jvm.Cond.methodLink own index ⟨kOB, "getClass", "()Ljava/lang/Class;"⟩).before a0 Z = true) (w2 : (Jvm.Cond.declares ⟨kOB, "getClass", "()Ljava/lang/Class;"⟩).before a0 Z = true) (w3 : (Jvm.Cond.noSuperclass kOB).before a0 Z = true) (w4 : (Jvm.Cond.selects C ⟨kOB, "getClass", "()Ljava/lang/Class;"⟩ ⟨kOB, "getClass", "()Ljava/lang/Class;"⟩).before a0 Z = true)
    (w5 : (Jvm.Cond.instanceMethod ⟨kOB, "getClass", "()Ljava/lang/Class;"⟩).before a0 Z = true) (w6 : (Jvm.Cond.native ⟨kOB, "getClass", "()Ljava/lang/Class;"⟩).before a0 Z = true) (eT : T.heap = h) (E : Exa Z h a C) {mr : Addr} (M : own_Mi Z C mr)
    {g : JFrame} (hg : g.method = m) (hsize : g.locals.size = c.maxLocals) {rest : List Value} (hs : g.stack = .ref a :: rest) (hd : decode c.code g.pc = .ok (.invokevirtual index, 3)) (hf : 1 ≤ R.frames) {W : Nat} (hW : 2 * g.monitorRoom + (rest.map fun v => v.category).sum ≤ W) (hl : W + (nativeFrameWords kOB "getClass" 1 + 11) ≤ R.locals) :
    ∃ T', Stand p l e R s m args below meth c T' locs cells slots ∧ T'.heap = h ∧ ∀ target, Steps p.tables e below (T'.setTop { g with pc := g.pc + 3, stack := .ref mr :: rest }) target → Steps p.tables e below (T.setTop g) target := by
  obtain ⟨cB, _, i1, _, i3⟩ := isOf hZ eT E
  obtain ⟨cc, kc, m1, m2, m3⟩ := own_miS M hZ
  cases i1.symm.trans m1
  obtain ⟨vm', X', st⟩ := X.getClassOf hx hown (mvT hZ w1) (mvT hZ w2) (nf_top (args := #[]) (mvT hZ w3)) (mvT hZ w4) (mvT hZ w5) (mvT hZ w6) m1 i3 m2 m3 hg hsize hs hd hf (Nat.le_trans (Nat.add_le_add_right hW _) hl)
  exact ⟨_, X', eT, st⟩
theorem own_ldcM (X : Stand p l e R s m args below meth c T locs cells slots) (hx : p.tables.exec = Jvm.exec) (hZ : Z.Warmed39 s.vm) {a0 : Array Value} {own C : String} {index : Nat} (hown : s.vm.findClass own = some m.cls) (w : (Jvm.Cond.classLink own index C).before a0 Z = true) (eT : T.heap = h) {mr : Addr} (M : own_Mi Z C mr)
    {g : JFrame} (hg : g.method = m) (hd : decode c.code g.pc = .ok (.ldc index, 2)) : ∃ T', Stand p l e R s m args below meth c T' locs cells slots ∧ T'.heap = h ∧ ∀ target, Steps p.tables e below (T'.setTop { g with pc := g.pc + 2, stack := .ref mr :: g.stack }) target → Steps p.tables e below (T.setTop g) target := by
  obtain ⟨cc, kc, m1, m2, m3⟩ := own_miS M hZ
  obtain ⟨vm', X', st⟩ := X.ldcMirror hx hown (a := mr) (mv hZ w) (by simp [Term.eval, m1, m2, m3]) hg hd
  exact ⟨_, X', eT, st⟩
end OwnMir
theorem own_NSroot {Z : State} {a0 : Array Value} {O K : String} {n : Nat} (w : (Jvm.Cond.noSuperclass O).before a0 Z = true) (wk : (Jvm.Cond.instantiable K n).before a0 Z = true) (hn : O ≠ K) : NS Z O K := by
  obtain ⟨c, k, h1, h2, h3, -, -⟩ := Cond.noSuperclass_spec w
  obtain ⟨t, k', g1, -⟩ := Cond.instantiable_spec wk
  have ne := ids_ne h1 g1 hn
  refine ⟨c, t, h1, g1, fun fuel => ?_⟩
  cases fuel with
  | zero => rfl
  | succ f => simp [Vm.isSubclassAux, ne, h2, h3]
theorem own_NSno {Z : State} {a0 : Array Value} {C S K : String} {n : Nat} (w : (Jvm.Cond.superclass C S).before a0 Z = true) (wk : (Jvm.Cond.instantiable K n).before a0 Z = true) (q : NS Z C K) (hn : C ≠ K) : ∃ c t, Z.vm.findClass C = some c ∧ Z.vm.findClass K = some t ∧ Z.vm.assignable c t = false := by
  obtain ⟨c, t, h0, g0, n3⟩ := q
  obtain ⟨p, k, kp, h1, h2, h3, h4, h5, -, h7⟩ := Cond.superclass_spec h0 w
  obtain ⟨t', k', g1, g2, g5, g6, -⟩ := Cond.instantiable_spec wk
  cases g0.symm.trans g1
  have ne := ids_ne h0 g0 hn
  have g7 : k'.isInterface = false := by simp only [Bool.or_eq_false_iff] at g6; exact g6.1
  refine ⟨c, t, h0, g0, ?_⟩
  show Z.vm.assignableAux (255 + 1) c t = false
  simp [Vm.assignableAux, ne, h2, g2, h5, g5, g7, Vm.isSubclass, n3]
theorem own_no12 {Z : State} {a0 : Array Value} (hw : own_HW Z a0) : ∃ c t, Z.vm.findClass kAL = some c ∧ Z.vm.findClass kL12 = some t ∧ Z.vm.assignable c t = false := (own_NSno (own_w hw 222 rfl) (own_w hw 299 rfl) (NS.step (own_w hw 222 rfl) (NS.step (own_w hw 223 rfl) (NS.step (own_w hw 224 rfl) (own_NSroot (own_w hw 225 rfl) (own_w hw 299 rfl) (by decide)) (by decide)) (by decide)) (by decide)) (by decide))
theorem own_noN {Z : State} {a0 : Array Value} (hw : own_HW Z a0) : ∃ c t, Z.vm.findClass kAL = some c ∧ Z.vm.findClass kLN = some t ∧ Z.vm.assignable c t = false := (own_NSno (own_w hw 222 rfl) (own_w hw 272 rfl) (NS.step (own_w hw 222 rfl) (NS.step (own_w hw 223 rfl) (NS.step (own_w hw 224 rfl) (own_NSroot (own_w hw 225 rfl) (own_w hw 272 rfl) (by decide)) (by decide)) (by decide)) (by decide)) (by decide))
theorem d43_0 : decode jdk_47_method_1_code 0 = .ok (.aload_n 0, 1) := by decide +kernel
theorem d43_1 : decode jdk_47_method_1_code 1 = .ok (.invokespecial 1, 3) := by decide +kernel
theorem d43_4 : decode jdk_47_method_1_code 4 = .ok (.return_, 1) := by decide +kernel
theorem pn8 : plainName "java/util/ImmutableCollections$AbstractImmutableCollection" = true := by first | (simp [plainName, overriddenIn]; done) | decide +kernel
theorem efm43 (m : MethodId) (r0 : Addr) : entryFrame m #[(.ref r0)] 1 = mkF m 0 #[oR r0] [] := by first | (simp [entryFrame, mkF, argsToLocals, Value.category]; done) | rfl
def Qm43 (Z : State) (r0 : Addr) (h0 : Heap) (n0 : Nat) (v : Option Value) (h : Heap) (L : List Loc) : Prop := v = none ∧ Fr n0 L ∧ (h = h0)
set_option maxRecDepth 65536 in
set_option maxHeartbeats 40000000 in
theorem rmm43 (l : Launch) (Z : State) (a0 : Array Value) (hw : own_HW Z a0) (ws : List Jvm.Cond) (r0 : Addr) (h0 : Heap) (n0 : Nat) (Z0 : n0 ≤ h0.size)  :
    MetFree l (⟨"java/util/ImmutableCollections$AbstractImmutableCollection", "<init>", "()V"⟩ : MethodName) (head1 (Jvm.Cond.code (⟨"java/util/ImmutableCollections$AbstractImmutableCollection", "<init>", "()V"⟩ : MethodName) jdk_47_method_1_code 1 none :: ws) ({ frames := 2, cells := 0, slots := 0, locals := 24 } : Room)) (fun a U => a = #[(.ref r0)] ∧ Z.Warmed39 U.vm ∧ U.heap = h0) (fun _ _ _ _ _ => True) (fun _ U o U' => ∃ v L, o = .returned v ∧ Qm43 Z r0 h0 n0 v U'.heap L ∧ FrameEnd U o U' L ({ frames := 2, cells := 0, slots := 0, locals := 24 } : Room).cells ({ frames := 2, cells := 0, slots := 0, locals := 24 } : Room).slots) := by
  refine MetFree.of_bodySF (plainFor_of_name pn8) hisR ?_
  intro p e s m args below meth c s₁ Bd hml0 hP hK
  obtain ⟨rfl, hZ, hh⟩ := hP
  have hx := Bd.exec
  have hby := Bd.bytes
  have hml : c.maxLocals = 1 := hml0
  have hown : s.vm.findClass "java/util/ImmutableCollections$AbstractImmutableCollection" = some m.cls := findClass_of_methodNamed Bd.named
  have hnm := (name_of_methodNamed Bd.named Bd.method).1
  have X0 : Stand p l e ({ frames := 2, cells := 0, slots := 0, locals := 24 } : Room) s m #[(.ref r0)] below meth c s₁ [] 0 0 := Stand.of_body Bd
  have e0 : s₁.heap = h0 := by rw [← hh, Bd.state]; rfl
  have N0 := Fr.nil n0
  have pre0 : ∀ t, Steps p.tables e below (s₁.setTop (mkF m 0 #[oR r0] [])) t → Steps p.tables e below (s₁.setTop (entryFrame m #[(.ref r0)] 1)) t := fun t k => castTop (efm43 m r0) k
  obtain ⟨_, T101, L101, X101, hQ101, st101⟩ := own_cC X0 hx hZ hw hown (b := r0) (W := 0) (rmm4 l Z a0 hw [] r0 h0 n0 Z0 ) (by decide) (by decide) (by decide) rfl 290 rfl 17 rfl 21 rfl 20 rfl e0 (g := (mkF m 1 #[oR r0] [(.ref r0)])) rfl (by rw [hml]; rfl) (argsL := []) (rest := []) (lenOf pd0 rfl) rfl (Nat.le_of_eq rfl) (hb hby d43_1) rfl (cN := 0) rfl (by decide) (sN := 0) rfl (by decide)
  obtain ⟨rfl, Nq101, P101_0⟩ := hQ101
  have N101 := Fr.app N0 Nq101
  obtain ⟨fs, hr, hrun, hended, hW, hsame⟩ := X101.leave (v := none) (fun _ => rfl)
  refine ⟨_, _, pre0 _ ?_, hrun, hended, _, _, rfl, ?_, ⟨_, rfl⟩, hW, hsame.mono (by decide) (by decide)⟩
  · show own_S p e below s₁ m 0 #[oR r0] [] _
    refine XS.aloadN X0.here hx rfl (hb hby d43_0) rfl rfl ?_
    show own_S p e below s₁ m 1 _ [(.ref r0)] _
    refine st101.trans ?_
    show own_S p e below T101 m 4 _ [] _
    exact X101.returnOut hx Bd.returns (hb hby d43_4) hr
  · show Qm43 Z r0 h0 n0 _ T101.heap _
    rw [P101_0]
    exact ⟨rfl, N101, rfl⟩
theorem d42_0 : decode jdk_46_method_1_code 0 = .ok (.aload_n 0, 1) := by decide +kernel
theorem d42_1 : decode jdk_46_method_1_code 1 = .ok (.invokespecial 1, 3) := by decide +kernel
theorem d42_4 : decode jdk_46_method_1_code 4 = .ok (.return_, 1) := by decide +kernel
theorem pn9 : plainName "java/util/ImmutableCollections$AbstractImmutableList" = true := by first | (simp [plainName, overriddenIn]; done) | decide +kernel
theorem efm42 (m : MethodId) (r0 : Addr) : entryFrame m #[(.ref r0)] 1 = mkF m 0 #[oR r0] [] := by first | (simp [entryFrame, mkF, argsToLocals, Value.category]; done) | rfl
def Qm42 (Z : State) (r0 : Addr) (h0 : Heap) (n0 : Nat) (v : Option Value) (h : Heap) (L : List Loc) : Prop := v = none ∧ Fr n0 L ∧ (h = h0)
set_option maxRecDepth 65536 in
set_option maxHeartbeats 40000000 in
theorem rmm42 (l : Launch) (Z : State) (a0 : Array Value) (hw : own_HW Z a0) (ws : List Jvm.Cond) (r0 : Addr) (h0 : Heap) (n0 : Nat) (Z0 : n0 ≤ h0.size)  :
    MetFree l (⟨"java/util/ImmutableCollections$AbstractImmutableList", "<init>", "()V"⟩ : MethodName) (head1 (Jvm.Cond.code (⟨"java/util/ImmutableCollections$AbstractImmutableList", "<init>", "()V"⟩ : MethodName) jdk_46_method_1_code 1 none :: ws) ({ frames := 3, cells := 0, slots := 0, locals := 36 } : Room)) (fun a U => a = #[(.ref r0)] ∧ Z.Warmed39 U.vm ∧ U.heap = h0) (fun _ _ _ _ _ => True) (fun _ U o U' => ∃ v L, o = .returned v ∧ Qm42 Z r0 h0 n0 v U'.heap L ∧ FrameEnd U o U' L ({ frames := 3, cells := 0, slots := 0, locals := 36 } : Room).cells ({ frames := 3, cells := 0, slots := 0, locals := 36 } : Room).slots) := by
  refine MetFree.of_bodySF (plainFor_of_name pn9) hisR ?_
  intro p e s m args below meth c s₁ Bd hml0 hP hK
  obtain ⟨rfl, hZ, hh⟩ := hP
  have hx := Bd.exec
  have hby := Bd.bytes
  have hml : c.maxLocals = 1 := hml0
  have hown : s.vm.findClass "java/util/ImmutableCollections$AbstractImmutableList" = some m.cls := findClass_of_methodNamed Bd.named
  have hnm := (name_of_methodNamed Bd.named Bd.method).1
  have X0 : Stand p l e ({ frames := 3, cells := 0, slots := 0, locals := 36 } : Room) s m #[(.ref r0)] below meth c s₁ [] 0 0 := Stand.of_body Bd
  have e0 : s₁.heap = h0 := by rw [← hh, Bd.state]; rfl
  have N0 := Fr.nil n0
  have pre0 : ∀ t, Steps p.tables e below (s₁.setTop (mkF m 0 #[oR r0] [])) t → Steps p.tables e below (s₁.setTop (entryFrame m #[(.ref r0)] 1)) t := fun t k => castTop (efm42 m r0) k
  obtain ⟨_, T101, L101, X101, hQ101, st101⟩ := own_cC X0 hx hZ hw hown (b := r0) (W := 0) (rmm43 l Z a0 hw [] r0 h0 n0 Z0 ) (by decide) (by decide) (by decide) rfl 284 rfl 285 rfl 289 rfl 288 rfl e0 (g := (mkF m 1 #[oR r0] [(.ref r0)])) rfl (by rw [hml]; rfl) (argsL := []) (rest := []) (lenOf pd0 rfl) rfl (Nat.le_of_eq rfl) (hb hby d42_1) rfl (cN := 0) rfl (by decide) (sN := 0) rfl (by decide)
  obtain ⟨rfl, Nq101, P101_0⟩ := hQ101
  have N101 := Fr.app N0 Nq101
  obtain ⟨fs, hr, hrun, hended, hW, hsame⟩ := X101.leave (v := none) (fun _ => rfl)
  refine ⟨_, _, pre0 _ ?_, hrun, hended, _, _, rfl, ?_, ⟨_, rfl⟩, hW, hsame.mono (by decide) (by decide)⟩
  · show own_S p e below s₁ m 0 #[oR r0] [] _
    refine XS.aloadN X0.here hx rfl (hb hby d42_0) rfl rfl ?_
    show own_S p e below s₁ m 1 _ [(.ref r0)] _
    refine st101.trans ?_
    show own_S p e below T101 m 4 _ [] _
    exact X101.returnOut hx Bd.returns (hb hby d42_4) hr
  · show Qm42 Z r0 h0 n0 _ T101.heap _
    rw [P101_0]
    exact ⟨rfl, N101, rfl⟩
theorem pd10 : parseMethodDescriptor "(Ljava/lang/Object;)Ljava/lang/Object;" = some ⟨[(.object kOB)], some (.object kOB)⟩ := by decide +kernel
theorem sn9 {Z : State} {a0 : Array Value} (hw : own_HW Z a0) : Jvm.RoadKit.slotOf Z kL12 "e1" "Ljava/lang/Object;" ≠ Jvm.RoadKit.slotOf Z kL12 "e0" "Ljava/lang/Object;" := slot_ne (Or.inr (own_w hw 313 rfl)) (Or.inr (own_w hw 311 rfl)) (by decide) (t := (.object kOB)) (t' := (.object kOB)) (by decide) (by decide)
theorem d44_0 : decode k44 0 = .ok (.aload_n 0, 1) := by decide +kernel
theorem d44_1 : decode k44 1 = .ok (.invokespecial 1, 3) := by decide +kernel
theorem d44_4 : decode k44 4 = .ok (.aload_n 0, 1) := by decide +kernel
theorem d44_5 : decode k44 5 = .ok (.aload_n 1, 1) := by decide +kernel
theorem d44_6 : decode k44 6 = .ok (.invokestatic 7, 3) := by decide +kernel
theorem d44_9 : decode k44 9 = .ok (.putfield 13, 3) := by decide +kernel
theorem d44_12 : decode k44 12 = .ok (.aload_n 0, 1) := by decide +kernel
theorem d44_13 : decode k44 13 = .ok (.aload_n 2, 1) := by decide +kernel
theorem d44_14 : decode k44 14 = .ok (.invokestatic 7, 3) := by decide +kernel
theorem d44_17 : decode k44 17 = .ok (.putfield 24, 3) := by decide +kernel
theorem d44_20 : decode k44 20 = .ok (.return_, 1) := by decide +kernel
theorem pn10 : plainName kL12 = true := by first | (simp [plainName, overriddenIn]; done) | decide +kernel
theorem efm44 (m : MethodId) (r0 : Addr) (r1 : Addr) (r2 : Addr) : entryFrame m #[(.ref r0), (.ref r1), (.ref r2)] 3 = mkF m 0 #[oR r0, oR r1, oR r2] [] := by first | (simp [entryFrame, mkF, argsToLocals, Value.category]; done) | rfl
def Qm44 (Z : State) (r0 : Addr) (r1 : Addr) (r2 : Addr) (w0 : Value) (w1 : Value) (h0 : Heap) (n0 : Nat) (v : Option Value) (h : Heap) (L : List Loc) : Prop := v = none ∧ Fr n0 L ∧ (Keep h0 h [r0]) ∧ (Fld Z h r0 kL12 "e0" "Ljava/lang/Object;" (.ref r1)) ∧ (Fld Z h r0 kL12 "e1" "Ljava/lang/Object;" (.ref r2))
set_option maxRecDepth 65536 in
set_option maxHeartbeats 40000000 in
theorem rmm44 (l : Launch) (Z : State) (a0 : Array Value) (hw : own_HW Z a0) (ws : List Jvm.Cond) (r0 : Addr) (r1 : Addr) (r2 : Addr) (w0 : Value) (w1 : Value) (h0 : Heap) (n0 : Nat) (Z0 : n0 ≤ h0.size) (E_r0 : Exa Z h0 r0 kL12) (g_r0 : n0 ≤ r0) (F_e0_r0 : Fld Z h0 r0 kL12 "e0" "Ljava/lang/Object;" w0) (F_e1_r0 : Fld Z h0 r0 kL12 "e1" "Ljava/lang/Object;" w1) :
    MetFree l (⟨kL12, "<init>", "(Ljava/lang/Object;Ljava/lang/Object;)V"⟩ : MethodName) (head1 (Jvm.Cond.code (⟨kL12, "<init>", "(Ljava/lang/Object;Ljava/lang/Object;)V"⟩ : MethodName) jdk_44_method_2_code 3 none :: ws) ({ frames := 4, cells := 0, slots := 0, locals := 48 } : Room)) (fun a U => a = #[(.ref r0), (.ref r1), (.ref r2)] ∧ Z.Warmed39 U.vm ∧ U.heap = h0) (fun _ _ _ _ _ => True) (fun _ U o U' => ∃ v L, o = .returned v ∧ Qm44 Z r0 r1 r2 w0 w1 h0 n0 v U'.heap L ∧ FrameEnd U o U' L ({ frames := 4, cells := 0, slots := 0, locals := 48 } : Room).cells ({ frames := 4, cells := 0, slots := 0, locals := 48 } : Room).slots) := by
  refine MetFree.of_bodySF (plainFor_of_name pn10) hisR ?_
  intro p e s m args below meth c s₁ Bd hml0 hP hK
  obtain ⟨rfl, hZ, hh⟩ := hP
  have hx := Bd.exec
  have hby := Bd.bytes
  have hml : c.maxLocals = 3 := hml0
  have hown : s.vm.findClass kL12 = some m.cls := findClass_of_methodNamed Bd.named
  have hnm := (name_of_methodNamed Bd.named Bd.method).1
  have X0 : Stand p l e ({ frames := 4, cells := 0, slots := 0, locals := 48 } : Room) s m #[(.ref r0), (.ref r1), (.ref r2)] below meth c s₁ [] 0 0 := Stand.of_body Bd
  have e0 : s₁.heap = h0 := by rw [← hh, Bd.state]; rfl
  have N0 := Fr.nil n0
  have pre0 : ∀ t, Steps p.tables e below (s₁.setTop (mkF m 0 #[oR r0, oR r1, oR r2] [])) t → Steps p.tables e below (s₁.setTop (entryFrame m #[(.ref r0), (.ref r1), (.ref r2)] 3)) t := fun t k => castTop (efm44 m r0 r1 r2) k
  obtain ⟨_, T101, L101, X101, hQ101, st101⟩ := own_cC X0 hx hZ hw hown (b := r0) (W := 0) (rmm42 l Z a0 hw [] r0 h0 n0 Z0 ) (by decide) (by decide) (by decide) rfl 305 rfl 279 rfl 283 rfl 282 rfl e0 (g := (mkF m 1 #[oR r0, oR r1, oR r2] [(.ref r0)])) rfl (by rw [hml]; rfl) (argsL := []) (rest := []) (lenOf pd0 rfl) rfl (Nat.le_of_eq rfl) (hb hby d44_1) rfl (cN := 0) rfl (by decide) (sN := 0) rfl (by decide)
  obtain ⟨rfl, Nq101, P101_0⟩ := hQ101
  have N101 := Fr.app N0 Nq101
  obtain ⟨_, T102, L102, X102, hQ102, st102⟩ := own_cS X101 hx hZ hw hown (W := 1) (rmm40 l Z a0 hw [] r1 h0 n0 Z0 ) (by decide) (by decide) (by decide) 309 rfl 270 rfl 108 rfl 271 rfl P101_0 (g := (mkF m 6 #[oR r0, oR r1, oR r2] [(.ref r1), (.ref r0)])) rfl (by rw [hml]; rfl) (argsL := [(.ref r1)]) (rest := [(.ref r0)]) (lenOf pd10 rfl) rfl (Nat.le_of_eq rfl) (hb hby d44_6) rfl (cN := 0) rfl (by decide) (sN := 0) rfl (by decide)
  obtain ⟨rfl, Nq102, P102_0⟩ := hQ102
  have N102 := Fr.app N101 Nq102
  obtain ⟨T103, h103, X103, e103, W103, st103⟩ := putF X102 hx hZ hown (host := "") (Or.inl (own_w hw 310 rfl)) Via.refl P102_0 F_e0_r0 E_r0 (Or.inr ⟨(own_w hw 311 rfl), rfl, hnm⟩) (own_w hw 299 rfl) (ty := (.object kOB)) (by decide) rfl rfl (g := (mkF m 9 #[oR r0, oR r1, oR r2] [(.ref r1), (.ref r0)])) rfl rfl (hb hby d44_9)
  have Fw103 := F_e0_r0.same W103
  have N103 := Fr.snoc X103 N102 g_r0
  have ZZ104 : n0 ≤ h103.size := Nat.le_trans Z0 (Nat.le_of_eq W103.size.symm)
  have KK105 : Keep h0 h103 [r0] := (Keep.refl h0 [r0]).wr W103 (Or.inl (List.mem_of_getElem? (i := 0) rfl))
  obtain ⟨_, T106, L106, X106, hQ106, st106⟩ := own_cS X103 hx hZ hw hown (W := 1) (rmm40 l Z a0 hw [] r2 h103 n0 ZZ104 ) (by decide) (by decide) (by decide) 309 rfl 270 rfl 108 rfl 271 rfl e103 (g := (mkF m 14 #[oR r0, oR r1, oR r2] [(.ref r2), (.ref r0)])) rfl (by rw [hml]; rfl) (argsL := [(.ref r2)]) (rest := [(.ref r0)]) (lenOf pd10 rfl) rfl (Nat.le_of_eq rfl) (hb hby d44_14) rfl (cN := 0) rfl (by decide) (sN := 0) rfl (by decide)
  obtain ⟨rfl, Nq106, P106_0⟩ := hQ106
  have N106 := Fr.app N103 Nq106
  have Fc107 := (F_e1_r0.other W103 (Or.inr (sn9 hw)))
  obtain ⟨T108, h108, X108, e108, W108, st108⟩ := putF X106 hx hZ hown (host := "") (Or.inl (own_w hw 312 rfl)) Via.refl P106_0 Fc107 (E_r0.wr W103) (Or.inr ⟨(own_w hw 313 rfl), rfl, hnm⟩) (own_w hw 299 rfl) (ty := (.object kOB)) (by decide) rfl rfl (g := (mkF m 17 #[oR r0, oR r1, oR r2] [(.ref r2), (.ref r0)])) rfl rfl (hb hby d44_17)
  have Fw108 := Fc107.same W108
  have N108 := Fr.snoc X108 N106 g_r0
  have ZZ109 : n0 ≤ h108.size := Nat.le_trans ZZ104 (Nat.le_of_eq W108.size.symm)
  have KK110 : Keep h0 h108 [r0] := KK105.wr W108 (Or.inl (List.mem_of_getElem? (i := 0) rfl))
  obtain ⟨fs, hr, hrun, hended, hW, hsame⟩ := X108.leave (v := none) (fun _ => rfl)
  refine ⟨_, _, pre0 _ ?_, hrun, hended, _, _, rfl, ?_, ⟨_, rfl⟩, hW, hsame.mono (by decide) (by decide)⟩
  · show own_S p e below s₁ m 0 #[oR r0, oR r1, oR r2] [] _
    refine XS.aloadN X0.here hx rfl (hb hby d44_0) rfl rfl ?_
    show own_S p e below s₁ m 1 _ [(.ref r0)] _
    refine st101.trans ?_
    show own_S p e below T101 m 4 _ [] _
    refine XS.aloadN X101.here hx rfl (hb hby d44_4) rfl rfl ?_
    refine XS.aloadN X101.here hx rfl (hb hby d44_5) rfl rfl ?_
    show own_S p e below T101 m 6 _ [(.ref r1), (.ref r0)] _
    refine st102.trans ?_
    show own_S p e below T102 m 9 _ [(.ref r1), (.ref r0)] _
    refine st103 _ ?_
    show own_S p e below T103 m 12 _ [] _
    refine XS.aloadN X103.here hx rfl (hb hby d44_12) rfl rfl ?_
    refine XS.aloadN X103.here hx rfl (hb hby d44_13) rfl rfl ?_
    show own_S p e below T103 m 14 _ [(.ref r2), (.ref r0)] _
    refine st106.trans ?_
    show own_S p e below T106 m 17 _ [(.ref r2), (.ref r0)] _
    refine st108 _ ?_
    show own_S p e below T108 m 20 _ [] _
    exact X108.returnOut hx Bd.returns (hb hby d44_20) hr
  · show Qm44 Z r0 r1 r2 w0 w1 h0 n0 _ T108.heap _
    rw [e108]
    exact ⟨rfl, N108, KK110, (Fw103.other W108 (Or.inr (Ne.symm (sn9 hw)))), Fw108⟩
theorem sn10 {Z : State} {a0 : Array Value} (hw : own_HW Z a0) : Jvm.RoadKit.slotOf Z kLN "allowNulls" "Z" ≠ Jvm.RoadKit.slotOf Z kLN "elements" kOA := slot_ne (Or.inr (own_w hw 295 rfl)) (Or.inr (own_w hw 293 rfl)) (by decide) (t := .boolean) (t' := (.array (.object kOB))) (by decide) (by decide)
theorem d41_0 : decode k41 0 = .ok (.aload_n 0, 1) := by decide +kernel
theorem d41_1 : decode k41 1 = .ok (.invokespecial 1, 3) := by decide +kernel
theorem d41_4 : decode k41 4 = .ok (.aload_n 0, 1) := by decide +kernel
theorem d41_5 : decode k41 5 = .ok (.aload_n 1, 1) := by decide +kernel
theorem d41_6 : decode k41 6 = .ok (.putfield 7, 3) := by decide +kernel
theorem d41_9 : decode k41 9 = .ok (.aload_n 0, 1) := by decide +kernel
theorem d41_10 : decode k41 10 = .ok (.iload_n 2, 1) := by decide +kernel
theorem d41_11 : decode k41 11 = .ok (.putfield 13, 3) := by decide +kernel
theorem d41_14 : decode k41 14 = .ok (.return_, 1) := by decide +kernel
theorem pn11 : plainName kLN = true := by first | (simp [plainName, overriddenIn]; done) | decide +kernel
theorem efm41 (m : MethodId) (r0 : Addr) (r1 : Addr) : entryFrame m #[(.ref r0), (.ref r1), (.int 0)] 3 = mkF m 0 #[oR r0, oR r1, oI 0] [] := by first | (simp [entryFrame, mkF, argsToLocals, Value.category]; done) | rfl
def Qm41 (Z : State) (r0 : Addr) (r1 : Addr) (w0 : Value) (w1 : Value) (h0 : Heap) (n0 : Nat) (v : Option Value) (h : Heap) (L : List Loc) : Prop := v = none ∧ Fr n0 L ∧ (Keep h0 h [r0]) ∧ (Fld Z h r0 kLN "elements" kOA (.ref r1)) ∧ (Fld Z h r0 kLN "allowNulls" "Z" (.int 0))
set_option maxRecDepth 65536 in
set_option maxHeartbeats 40000000 in
theorem rmm41 (l : Launch) (Z : State) (a0 : Array Value) (hw : own_HW Z a0) (ws : List Jvm.Cond) (r0 : Addr) (r1 : Addr) (w0 : Value) (w1 : Value) (h0 : Heap) (n0 : Nat) (Z0 : n0 ≤ h0.size) (E_r0 : Exa Z h0 r0 kLN) (g_r0 : n0 ≤ r0) (F_elements_r0 : Fld Z h0 r0 kLN "elements" kOA w0) (F_allowNulls_r0 : Fld Z h0 r0 kLN "allowNulls" "Z" w1) :
    MetFree l (⟨kLN, "<init>", "([Ljava/lang/Object;Z)V"⟩ : MethodName) (head1 (Jvm.Cond.code (⟨kLN, "<init>", "([Ljava/lang/Object;Z)V"⟩ : MethodName) jdk_45_method_1_code 3 none :: ws) ({ frames := 4, cells := 0, slots := 0, locals := 48 } : Room)) (fun a U => a = #[(.ref r0), (.ref r1), (.int 0)] ∧ Z.Warmed39 U.vm ∧ U.heap = h0) (fun _ _ _ _ _ => True) (fun _ U o U' => ∃ v L, o = .returned v ∧ Qm41 Z r0 r1 w0 w1 h0 n0 v U'.heap L ∧ FrameEnd U o U' L ({ frames := 4, cells := 0, slots := 0, locals := 48 } : Room).cells ({ frames := 4, cells := 0, slots := 0, locals := 48 } : Room).slots) := by
  refine MetFree.of_bodySF (plainFor_of_name pn11) hisR ?_
  intro p e s m args below meth c s₁ Bd hml0 hP hK
  obtain ⟨rfl, hZ, hh⟩ := hP
  have hx := Bd.exec
  have hby := Bd.bytes
  have hml : c.maxLocals = 3 := hml0
  have hown : s.vm.findClass kLN = some m.cls := findClass_of_methodNamed Bd.named
  have hnm := (name_of_methodNamed Bd.named Bd.method).1
  have X0 : Stand p l e ({ frames := 4, cells := 0, slots := 0, locals := 48 } : Room) s m #[(.ref r0), (.ref r1), (.int 0)] below meth c s₁ [] 0 0 := Stand.of_body Bd
  have e0 : s₁.heap = h0 := by rw [← hh, Bd.state]; rfl
  have N0 := Fr.nil n0
  have pre0 : ∀ t, Steps p.tables e below (s₁.setTop (mkF m 0 #[oR r0, oR r1, oI 0] [])) t → Steps p.tables e below (s₁.setTop (entryFrame m #[(.ref r0), (.ref r1), (.int 0)] 3)) t := fun t k => castTop (efm41 m r0 r1) k
  obtain ⟨_, T101, L101, X101, hQ101, st101⟩ := own_cC X0 hx hZ hw hown (b := r0) (W := 0) (rmm42 l Z a0 hw [] r0 h0 n0 Z0 ) (by decide) (by decide) (by decide) rfl 278 rfl 279 rfl 283 rfl 282 rfl e0 (g := (mkF m 1 #[oR r0, oR r1, oI 0] [(.ref r0)])) rfl (by rw [hml]; rfl) (argsL := []) (rest := []) (lenOf pd0 rfl) rfl (Nat.le_of_eq rfl) (hb hby d41_1) rfl (cN := 0) rfl (by decide) (sN := 0) rfl (by decide)
  obtain ⟨rfl, Nq101, P101_0⟩ := hQ101
  have N101 := Fr.app N0 Nq101
  obtain ⟨T102, h102, X102, e102, W102, st102⟩ := putF X101 hx hZ hown (host := "") (Or.inl (own_w hw 292 rfl)) Via.refl P101_0 F_elements_r0 E_r0 (Or.inr ⟨(own_w hw 293 rfl), rfl, hnm⟩) (own_w hw 272 rfl) (ty := (.array (.object kOB))) (by decide) rfl rfl (g := (mkF m 6 #[oR r0, oR r1, oI 0] [(.ref r1), (.ref r0)])) rfl rfl (hb hby d41_6)
  have Fw102 := F_elements_r0.same W102
  have N102 := Fr.snoc X102 N101 g_r0
  have ZZ103 : n0 ≤ h102.size := Nat.le_trans Z0 (Nat.le_of_eq W102.size.symm)
  have KK104 : Keep h0 h102 [r0] := (Keep.refl h0 [r0]).wr W102 (Or.inl (List.mem_of_getElem? (i := 0) rfl))
  have Fc105 := (F_allowNulls_r0.other W102 (Or.inr (sn10 hw)))
  obtain ⟨T106, h106, X106, e106, W106, st106⟩ := putFN X102 hx hZ hown (own_w hw 294 rfl) Via.refl e102 Fc105 (E_r0.wr W102) (Or.inr ⟨(own_w hw 295 rfl), rfl, hnm⟩) (own_w hw 272 rfl) (ty := .boolean) (v' := (.int 0)) (by decide) rfl (by decide) (g := (mkF m 11 #[oR r0, oR r1, oI 0] [(.int 0), (.ref r0)])) rfl rfl (hb hby d41_11)
  have Fw106 := Fc105.same W106
  have N106 := Fr.snoc X106 N102 g_r0
  have ZZ107 : n0 ≤ h106.size := Nat.le_trans ZZ103 (Nat.le_of_eq W106.size.symm)
  have KK108 : Keep h0 h106 [r0] := KK104.wr W106 (Or.inl (List.mem_of_getElem? (i := 0) rfl))
  obtain ⟨fs, hr, hrun, hended, hW, hsame⟩ := X106.leave (v := none) (fun _ => rfl)
  refine ⟨_, _, pre0 _ ?_, hrun, hended, _, _, rfl, ?_, ⟨_, rfl⟩, hW, hsame.mono (by decide) (by decide)⟩
  · show own_S p e below s₁ m 0 #[oR r0, oR r1, oI 0] [] _
    refine XS.aloadN X0.here hx rfl (hb hby d41_0) rfl rfl ?_
    show own_S p e below s₁ m 1 _ [(.ref r0)] _
    refine st101.trans ?_
    show own_S p e below T101 m 4 _ [] _
    refine XS.aloadN X101.here hx rfl (hb hby d41_4) rfl rfl ?_
    refine XS.aloadN X101.here hx rfl (hb hby d41_5) rfl rfl ?_
    show own_S p e below T101 m 6 _ [(.ref r1), (.ref r0)] _
    refine st102 _ ?_
    show own_S p e below T102 m 9 _ [] _
    refine XS.aloadN X102.here hx rfl (hb hby d41_9) rfl rfl ?_
    refine XS.iloadN X102.here hx rfl (hb hby d41_10) rfl ?_
    show own_S p e below T102 m 11 #[oR r0, oR r1, oI 0] [(.int 0), (.ref r0)] _
    refine st106 _ ?_
    show own_S p e below T106 m 14 _ [] _
    exact X106.returnOut hx Bd.returns (hb hby d41_14) hr
  · show Qm41 Z r0 r1 w0 w1 h0 n0 _ T106.heap _
    rw [e106]
    exact ⟨rfl, N106, KK108, (Fw102.other W106 (Or.inr (Ne.symm (sn10 hw)))), Fw106⟩
theorem d37_0 : decode k37 0 = .ok (.iload_n 0, 1) := by decide +kernel
theorem d37_1 : decode k37 1 = .ok (.iload_n 1, 1) := by decide +kernel
theorem d37_2 : decode k37 2 = .ok (.if_icmp .gt 7, 3) := by decide +kernel
theorem d37_9 : decode k37 9 = .ok (.iload_n 1, 1) := by decide +kernel
theorem d37_10 : decode k37 10 = .ok (.ireturn, 1) := by decide +kernel
theorem ef_mi3_10 (m : MethodId)  : entryFrame m #[(.int 10), (.int 3)] 2 = mkF m 0 #[oI 10, oI 3] [] := by first | (simp [entryFrame, mkF, argsToLocals, Value.category]; done) | rfl
def Q_mi3_10 (Z : State)  (h0 : Heap) (n0 : Nat) (v : Option Value) (h : Heap) (L : List Loc) : Prop := v = some (.int 3) ∧ Fr n0 L ∧ (h = h0)
set_option maxRecDepth 65536 in
set_option maxHeartbeats 40000000 in
theorem rm_mi3_10 (l : Launch) (Z : State) (a0 : Array Value) (hw : own_HW Z a0) (ws : List Jvm.Cond)  (h0 : Heap) (n0 : Nat) (Z0 : n0 ≤ h0.size)  :
    MetFree l (⟨"java/lang/Math", "min", "(II)I"⟩ : MethodName) (head1 (Jvm.Cond.code (⟨"java/lang/Math", "min", "(II)I"⟩ : MethodName) jdk_29_method_69_code 2 (some .int) :: ws) ({ frames := 0, cells := 0, slots := 0, locals := 0 } : Room)) (fun a U => a = #[(.int 10), (.int 3)] ∧ Z.Warmed39 U.vm ∧ U.heap = h0) (fun _ _ _ _ _ => True) (fun _ U o U' => ∃ v L, o = .returned v ∧ Q_mi3_10 Z  h0 n0 v U'.heap L ∧ FrameEnd U o U' L ({ frames := 0, cells := 0, slots := 0, locals := 0 } : Room).cells ({ frames := 0, cells := 0, slots := 0, locals := 0 } : Room).slots) := by
  refine MetFree.of_bodySF (Jvm.Free.JP.mathPlain rfl (by decide +kernel)) hisR ?_
  intro p e s m args below meth c s₁ Bd hml0 hP hK
  obtain ⟨rfl, hZ, hh⟩ := hP
  have hx := Bd.exec
  have hby := Bd.bytes
  have hml : c.maxLocals = 2 := hml0
  have hown : s.vm.findClass "java/lang/Math" = some m.cls := findClass_of_methodNamed Bd.named
  have hnm := (name_of_methodNamed Bd.named Bd.method).1
  have X0 : Stand p l e ({ frames := 0, cells := 0, slots := 0, locals := 0 } : Room) s m #[(.int 10), (.int 3)] below meth c s₁ [] 0 0 := Stand.of_body Bd
  have e0 : s₁.heap = h0 := by rw [← hh, Bd.state]; rfl
  have N0 := Fr.nil n0
  have pre0 : ∀ t, Steps p.tables e below (s₁.setTop (mkF m 0 #[oI 10, oI 3] [])) t → Steps p.tables e below (s₁.setTop (entryFrame m #[(.int 10), (.int 3)] 2)) t := fun t k => castTop (ef_mi3_10 m ) k
  obtain ⟨fs, hr, hrun, hended, hW, hsame⟩ := X0.leave (v := some (.int 3)) (fun h => by rw [Bd.returns] at h; cases h)
  refine ⟨_, _, pre0 _ ?_, hrun, hended, _, _, rfl, ?_, ⟨_, rfl⟩, hW, hsame.mono (by decide) (by decide)⟩
  · show own_S p e below s₁ m 0 #[oI 10, oI 3] [] _
    refine XS.iloadN X0.here hx rfl (hb hby d37_0) rfl ?_
    refine XS.iloadN X0.here hx rfl (hb hby d37_1) rfl ?_
    refine XS.icmpYes X0.here hx rfl (pc0 := 2) (pc' := 9) rfl (hb hby d37_2) rfl (tlt (by decide : (3 : Int32) < (10 : Int32))).2.2.1 (by decide) (by decide) ?_
    refine XS.iloadN X0.here hx rfl (hb hby d37_9) rfl ?_
    show own_S p e below s₁ m 10 _ [(.int 3)] _
    exact retOut X0 hx Bd.returns rfl (Or.inl ⟨rfl, Or.inl rfl, _, rfl⟩) (hb hby d37_10) hr
  · show Q_mi3_10 Z  h0 n0 _ s₁.heap _
    rw [e0]
    exact ⟨rfl, N0, rfl⟩
theorem d36_0 : decode k36 0 = .ok (.aload_n 2, 1) := by decide +kernel
theorem d36_1 : decode k36 1 = .ok (.ldc 110, 2) := by decide +kernel
theorem d36_3 : decode k36 3 = .ok (.if_acmp .ne 10, 3) := by decide +kernel
theorem d36_6 : decode k36 6 = .ok (.iload_n 1, 1) := by decide +kernel
theorem d36_7 : decode k36 7 = .ok (.anewarray 2, 3) := by decide +kernel
theorem d36_10 : decode k36 10 = .ok (.goto 14, 3) := by decide +kernel
theorem d36_24 : decode k36 24 = .ok (.astore_n 3, 1) := by decide +kernel
theorem d36_25 : decode k36 25 = .ok (.aload_n 0, 1) := by decide +kernel
theorem d36_26 : decode k36 26 = .ok (.iconst 0, 1) := by decide +kernel
theorem d36_27 : decode k36 27 = .ok (.aload_n 3, 1) := by decide +kernel
theorem d36_28 : decode k36 28 = .ok (.iconst 0, 1) := by decide +kernel
theorem d36_29 : decode k36 29 = .ok (.aload_n 0, 1) := by decide +kernel
theorem d36_30 : decode k36 30 = .ok (.arraylength, 1) := by decide +kernel
theorem d36_31 : decode k36 31 = .ok (.iload_n 1, 1) := by decide +kernel
theorem d36_32 : decode k36 32 = .ok (.invokestatic 304, 3) := by decide +kernel
theorem d36_35 : decode k36 35 = .ok (.invokestatic 150, 3) := by decide +kernel
theorem d36_38 : decode k36 38 = .ok (.aload_n 3, 1) := by decide +kernel
theorem d36_39 : decode k36 39 = .ok (.areturn, 1) := by decide +kernel
theorem pn12 : plainName "java/util/Arrays" = true := by first | (simp [plainName, overriddenIn]; done) | decide +kernel
theorem ef_c33_10 (m : MethodId) (el : Addr) (mr : Addr) : entryFrame m #[(.ref el), (.int 3), (.ref mr)] 4 = mkF m 0 #[oR el, oI 3, oR mr, oU] [] := by first | (simp [entryFrame, mkF, argsToLocals, Value.category]; done) | rfl
def Q_c33_10 (Z : State) (el : Addr) (mr : Addr) (kel : ClassId) (x0 : Addr) (x1 : Addr) (x2 : Addr) (h0 : Heap) (n0 : Nat) (v : Option Value) (h : Heap) (L : List Loc) : Prop := ∃ na : Addr, ∃ kna : ClassId, v = some (.ref na) ∧ Fr n0 L ∧ (Keep h0 h []) ∧ (h0.size ≤ na) ∧ (Arv Z h na kna (.object kOB) (3 : Int32) [(.ref x0), (.ref x1), (.ref x2)] .null) ∧ (Exa Z h na kOA)
set_option maxRecDepth 65536 in
set_option maxHeartbeats 40000000 in
theorem rm_c33_10 (l : Launch) (Z : State) (a0 : Array Value) (hw : own_HW Z a0) (ws : List Jvm.Cond) (el : Addr) (mr : Addr) (kel : ClassId) (x0 : Addr) (x1 : Addr) (x2 : Addr) (h0 : Heap) (n0 : Nat) (Z0 : n0 ≤ h0.size) (V_el : Arv Z h0 el kel (.object kOB) (10 : Int32) [(.ref x0), (.ref x1), (.ref x2), .null] .null) (E_el : Exa Z h0 el kOA) (I_x0 : Ins Z h0 x0 kOB true) (I_x1 : Ins Z h0 x1 kOB true) (I_x2 : Ins Z h0 x2 kOB true) (M_mr : own_Mi Z kOA mr) :
    MetFree l (⟨"java/util/Arrays", "copyOf", "([Ljava/lang/Object;ILjava/lang/Class;)[Ljava/lang/Object;"⟩ : MethodName) (head1 (Jvm.Cond.code (⟨"java/util/Arrays", "copyOf", "([Ljava/lang/Object;ILjava/lang/Class;)[Ljava/lang/Object;"⟩ : MethodName) jdk_65_method_120_code 4 (some (.array (.object kOB))) :: ws) ({ frames := 1, cells := 1, slots := 3, locals := 20 } : Room)) (fun a U => a = #[(.ref el), (.int 3), (.ref mr)] ∧ Z.Warmed39 U.vm ∧ U.heap = h0) (fun _ _ _ _ _ => True) (fun _ U o U' => ∃ v L, o = .returned v ∧ Q_c33_10 Z el mr kel x0 x1 x2 h0 n0 v U'.heap L ∧ FrameEnd U o U' L ({ frames := 1, cells := 1, slots := 3, locals := 20 } : Room).cells ({ frames := 1, cells := 1, slots := 3, locals := 20 } : Room).slots) := by
  refine MetFree.of_bodySF (plainFor_of_name pn12) hisR ?_
  intro p e s m args below meth c s₁ Bd hml0 hP hK
  obtain ⟨rfl, hZ, hh⟩ := hP
  have hx := Bd.exec
  have hby := Bd.bytes
  have hml : c.maxLocals = 4 := hml0
  have hown : s.vm.findClass "java/util/Arrays" = some m.cls := findClass_of_methodNamed Bd.named
  have hnm := (name_of_methodNamed Bd.named Bd.method).1
  have X0 : Stand p l e ({ frames := 1, cells := 1, slots := 3, locals := 20 } : Room) s m #[(.ref el), (.int 3), (.ref mr)] below meth c s₁ [] 0 0 := Stand.of_body Bd
  have e0 : s₁.heap = h0 := by rw [← hh, Bd.state]; rfl
  have N0 := Fr.nil n0
  have pre0 : ∀ t, Steps p.tables e below (s₁.setTop (mkF m 0 #[oR el, oI 3, oR mr, oU] [])) t → Steps p.tables e below (s₁.setTop (entryFrame m #[(.ref el), (.int 3), (.ref mr)] 4)) t := fun t k => castTop (ef_c33_10 m el mr) k
  obtain ⟨T101, X101, e101, st101⟩ := own_ldcM X0 hx hZ hown (own_w hw 253 rfl) e0 M_mr (g := (mkF m 1 #[oR el, oI 3, oR mr, oU] [(.ref mr)])) rfl (hb hby d36_1)
  obtain ⟨T102, h102, k102, X102, e102, E102, A102, Ea102, O102, st102⟩ := newRE X101 hx hZ hown (own_w hw 254 rfl) (own_w hw 82 rfl) e101 (g := (mkF m 7 #[oR el, oI 3, oR mr, oU] [(.int 3)])) rfl (hb hby d36_7) rfl (by decide) (cap := 3) (by decide) (by decide) (by decide) (by decide) (ad := kOA) (by decide)
  obtain ⟨b102, g102⟩ : ∃ z, z = h0.size := ⟨_, rfl⟩
  rw [← g102] at A102 Ea102 st102
  have g_b102 : n0 ≤ b102 := Nat.le_trans Z0 (Nat.le_of_eq g102.symm)
  have sz_b102 : h0.size ≤ b102 := Nat.le_trans (Keep.refl h0 []).1 (Nat.le_of_eq g102.symm)
  have ZZ103 : n0 ≤ h102.size := Nat.le_trans Z0 E102.1
  have KK104 : Keep h0 h102 [] := (Keep.refl h0 []).ext E102
  have V_b102 : Arv Z h102 b102 k102 (.object kOB) (3 : Int32) [.null, .null, .null] .null := (Arv.new A102 (by decide)).pad (pad_rep [] .null 3)
  obtain ⟨cl105, Ar105, qk105, Sz105, Nz105, Hh105, Gg105⟩ := id (V_el.ext E102)
  obtain ⟨_, T106, L106, X106, hQ106, st106⟩ := own_cS X102 hx hZ hw hown (W := 4) (rm_mi3_10 l Z a0 hw []  h102 n0 ZZ103 ) (by decide) (by decide) (by decide) 255 rfl 256 rfl 79 rfl 257 rfl e102 (g := (mkF m 32 #[oR el, oI 3, oR mr, oR b102] [(.int 3), (.int 10), (.int 0), (.ref b102), (.int 0), (.ref el)])) rfl (by rw [hml]; rfl) (argsL := [(.int 10), (.int 3)]) (rest := [(.int 0), (.ref b102), (.int 0), (.ref el)]) (lenOf pd2 rfl) rfl (Nat.le_of_eq rfl) (hb hby d36_32) rfl (cN := 1) rfl (by decide) (sN := 3) rfl (by decide)
  obtain ⟨rfl, Nq106, P106_0⟩ := hQ106
  have N106 := Fr.app N0 Nq106
  obtain ⟨cl107, Ar107, qk107, Sz107, Nz107, Hh107, Gg107⟩ := id V_b102
  obtain ⟨T108, h108, L108, X108, e108, N108, K108, A108, st108⟩ := cpA (us := [(.ref x0), (.ref x1), (.ref x2)]) X106 hx hZ hown (own_w hw 258 rfl) (own_w hw 261 rfl) (own_w hw 259 rfl) (own_w hw 260 rfl) P106_0 (V_el.ext E102) V_b102 (Or.inr ⟨rfl, rfl, ⟨(Sto.ofV Ar107 qk107 O102 (I_x0.ext E102)), ⟨(Sto.ofV Ar107 qk107 O102 (I_x1.ext E102)), ⟨(Sto.ofV Ar107 qk107 O102 (I_x2.ext E102)), trivial⟩⟩⟩⟩) (by decide) (by decide) (by decide) (by decide) (by decide) rfl (Nat.le_of_ble_eq_true rfl) N106 g_b102 (g := (mkF m 35 #[oR el, oI 3, oR mr, oR b102] [(.int 3), (.int 0), (.ref b102), (.int 0), (.ref el)])) rfl (by rw [hml]; rfl) rfl (hb hby d36_35) (by decide) (W := 0) (by show 2 * 0 + _ ≤ _; exact Nat.le_of_eq rfl) (by decide +kernel)
  have ZZ109 : n0 ≤ h108.size := Nat.le_trans ZZ103 K108.1
  have KK110 : Keep h0 h108 [] := Keep.trans KK104 K108 (allS (Or.inr sz_b102) all0)
  have V108 : Arv Z h108 b102 k102 (.object kOB) (3 : Int32) [(.ref x0), (.ref x1), (.ref x2)] .null := A108
  obtain ⟨fs, hr, hrun, hended, hW, hsame⟩ := X108.leave (v := some (.ref b102)) (fun h => by rw [Bd.returns] at h; cases h)
  refine ⟨_, _, pre0 _ ?_, hrun, hended, _, _, rfl, ?_, ⟨_, rfl⟩, hW, hsame.mono (by decide) (by decide)⟩
  · show own_S p e below s₁ m 0 #[oR el, oI 3, oR mr, oU] [] _
    refine XS.aloadN X0.here hx rfl (hb hby d36_0) rfl rfl ?_
    show own_S p e below s₁ m 1 _ [(.ref mr)] _
    refine st101 _ ?_
    show own_S p e below T101 m 3 _ [(.ref mr), (.ref mr)] _
    refine Jvm.RoadKit.acmp (g := (mkF m 3 #[oR el, oI 3, oR mr, oU] [(.ref mr), (.ref mr)])) X101 hx rfl rfl rfl (pc0 := 3) (pc' := 6) (same := true) rfl (hb hby d36_3) rfl (decide_eq_true rfl) (by decide) (by decide) ?_
    show own_S p e below T101 m 6 _ [] _
    refine XS.iloadN X101.here hx rfl (hb hby d36_6) rfl ?_
    show own_S p e below T101 m 7 _ [(.int 3)] _
    refine st102 _ ?_
    show own_S p e below T102 m 10 _ [(.ref b102)] _
    refine XS.goto X102.here hx rfl (pc0 := 10) (pc' := 24) rfl (hb hby d36_10) (by decide) (by decide) ?_
    refine XS.astoreN X102.here hx rfl (hb hby d36_24) rfl rfl (l' := #[oR el, oI 3, oR mr, oR b102]) rfl ?_
    refine XS.aloadN X102.here hx rfl (hb hby d36_25) rfl rfl ?_
    refine XS.iconst X102.here hx rfl (hb hby d36_26) ?_
    show own_S p e below T102 m 27 _ [(.int 0), (.ref el)] _
    refine XS.aloadN X102.here hx rfl (hb hby d36_27) rfl rfl ?_
    refine XS.iconst X102.here hx rfl (hb hby d36_28) ?_
    refine XS.aloadN X102.here hx rfl (hb hby d36_29) rfl rfl ?_
    show own_S p e below T102 m 30 _ [(.ref el), (.int 0), (.ref b102), (.int 0), (.ref el)] _
    refine X102.arraylength hx (by rw [e102]; exact Ar105.1) (State.isArrayOf_alike hZ.alike Ar105.2.1) (g := (mkF m 30 #[oR el, oI 3, oR mr, oR b102] [(.ref el), (.int 0), (.ref b102), (.int 0), (.ref el)])) rfl rfl (hb hby d36_30) _ ?_
    rw [len_of Sz105 Nz105]
    show own_S p e below T102 m 31 _ [(.int 10), (.int 0), (.ref b102), (.int 0), (.ref el)] _
    refine XS.iloadN X102.here hx rfl (hb hby d36_31) rfl ?_
    show own_S p e below T102 m 32 #[oR el, oI 3, oR mr, oR b102] [(.int 3), (.int 10), (.int 0), (.ref b102), (.int 0), (.ref el)] _
    refine st106.trans ?_
    show own_S p e below T106 m 35 _ [(.int 3), (.int 0), (.ref b102), (.int 0), (.ref el)] _
    refine st108 _ ?_
    show own_S p e below T108 m 38 _ [] _
    refine XS.aloadN X108.here hx rfl (hb hby d36_38) rfl rfl ?_
    show own_S p e below T108 m 39 _ [(.ref b102)] _
    exact retOut X108 hx Bd.returns rfl (Or.inr (Or.inr (Or.inr (Or.inr ⟨rfl, rfl, rfl⟩)))) (hb hby d36_39) hr
  · show Q_c33_10 Z el mr kel x0 x1 x2 h0 n0 _ T108.heap _
    rw [e108]
    exact ⟨b102, k102, rfl, N108, KK110, sz_b102, V108, (Ea102.keep K108)⟩
theorem pd11 : parseMethodDescriptor "([Ljava/lang/Object;ILjava/lang/Class;)[Ljava/lang/Object;" = some ⟨[(.array (.object kOB)), .int, (.object "java/lang/Class")], some (.array (.object kOB))⟩ := by decide +kernel
theorem d35_0 : decode k35 0 = .ok (.aload_n 0, 1) := by decide +kernel
theorem d35_1 : decode k35 1 = .ok (.iload_n 1, 1) := by decide +kernel
theorem d35_2 : decode k35 2 = .ok (.aload_n 0, 1) := by decide +kernel
theorem d35_3 : decode k35 3 = .ok (.invokevirtual 86, 3) := by decide +kernel
theorem d35_6 : decode k35 6 = .ok (.invokestatic 300, 3) := by decide +kernel
theorem d35_9 : decode k35 9 = .ok (.areturn, 1) := by decide +kernel
theorem ef_c23_10 (m : MethodId) (el : Addr) : entryFrame m #[(.ref el), (.int 3)] 2 = mkF m 0 #[oR el, oI 3] [] := by first | (simp [entryFrame, mkF, argsToLocals, Value.category]; done) | rfl
def Q_c23_10 (Z : State) (el : Addr) (kel : ClassId) (x0 : Addr) (x1 : Addr) (x2 : Addr) (mr : Addr) (h0 : Heap) (n0 : Nat) (v : Option Value) (h : Heap) (L : List Loc) : Prop := ∃ na : Addr, ∃ kna : ClassId, v = some (.ref na) ∧ Fr n0 L ∧ (Keep h0 h []) ∧ (h0.size ≤ na) ∧ (Arv Z h na kna (.object kOB) (3 : Int32) [(.ref x0), (.ref x1), (.ref x2)] .null) ∧ (Exa Z h na kOA)
set_option maxRecDepth 65536 in
set_option maxHeartbeats 40000000 in
theorem rm_c23_10 (l : Launch) (Z : State) (a0 : Array Value) (hw : own_HW Z a0) (ws : List Jvm.Cond) (el : Addr) (kel : ClassId) (x0 : Addr) (x1 : Addr) (x2 : Addr) (mr : Addr) (h0 : Heap) (n0 : Nat) (Z0 : n0 ≤ h0.size) (V_el : Arv Z h0 el kel (.object kOB) (10 : Int32) [(.ref x0), (.ref x1), (.ref x2), .null] .null) (E_el : Exa Z h0 el kOA) (I_x0 : Ins Z h0 x0 kOB true) (I_x1 : Ins Z h0 x1 kOB true) (I_x2 : Ins Z h0 x2 kOB true) (M_mr : own_Mi Z kOA mr) :
    MetFree l (⟨"java/util/Arrays", "copyOf", "([Ljava/lang/Object;I)[Ljava/lang/Object;"⟩ : MethodName) (head1 (Jvm.Cond.code (⟨"java/util/Arrays", "copyOf", "([Ljava/lang/Object;I)[Ljava/lang/Object;"⟩ : MethodName) jdk_65_method_119_code 2 (some (.array (.object kOB))) :: ws) ({ frames := 2, cells := 1, slots := 3, locals := 35 } : Room)) (fun a U => a = #[(.ref el), (.int 3)] ∧ Z.Warmed39 U.vm ∧ U.heap = h0) (fun _ _ _ _ _ => True) (fun _ U o U' => ∃ v L, o = .returned v ∧ Q_c23_10 Z el kel x0 x1 x2 mr h0 n0 v U'.heap L ∧ FrameEnd U o U' L ({ frames := 2, cells := 1, slots := 3, locals := 35 } : Room).cells ({ frames := 2, cells := 1, slots := 3, locals := 35 } : Room).slots) := by
  refine MetFree.of_bodySF (plainFor_of_name pn12) hisR ?_
  intro p e s m args below meth c s₁ Bd hml0 hP hK
  obtain ⟨rfl, hZ, hh⟩ := hP
  have hx := Bd.exec
  have hby := Bd.bytes
  have hml : c.maxLocals = 2 := hml0
  have hown : s.vm.findClass "java/util/Arrays" = some m.cls := findClass_of_methodNamed Bd.named
  have hnm := (name_of_methodNamed Bd.named Bd.method).1
  have X0 : Stand p l e ({ frames := 2, cells := 1, slots := 3, locals := 35 } : Room) s m #[(.ref el), (.int 3)] below meth c s₁ [] 0 0 := Stand.of_body Bd
  have e0 : s₁.heap = h0 := by rw [← hh, Bd.state]; rfl
  have N0 := Fr.nil n0
  have pre0 : ∀ t, Steps p.tables e below (s₁.setTop (mkF m 0 #[oR el, oI 3] [])) t → Steps p.tables e below (s₁.setTop (entryFrame m #[(.ref el), (.int 3)] 2)) t := fun t k => castTop (ef_c23_10 m el) k
  obtain ⟨T101, X101, e101, st101⟩ := own_gcls X0 hx hZ hown (own_w hw 244 rfl) (own_w hw 245 rfl) (own_w hw 225 rfl) (own_w hw 247 rfl) (own_w hw 246 rfl) (own_w hw 248 rfl) e0 E_el M_mr (g := (mkF m 3 #[oR el, oI 3] [(.ref el), (.int 3), (.ref el)])) rfl (by rw [hml]; rfl) rfl (hb hby d35_3) (by decide) (W := 2) (by show 2 * 0 + _ ≤ _; exact Nat.le_of_eq rfl) (by decide +kernel)
  obtain ⟨_, T102, L102, X102, hQ102, st102⟩ := own_cS X101 hx hZ hw hown (W := 0) (rm_c33_10 l Z a0 hw [] el mr kel x0 x1 x2 h0 n0 Z0 V_el E_el I_x0 I_x1 I_x2 M_mr) (by decide) (by decide) (by decide) 250 rfl 251 rfl 242 rfl 252 rfl e101 (g := (mkF m 6 #[oR el, oI 3] [(.ref mr), (.int 3), (.ref el)])) rfl (by rw [hml]; rfl) (argsL := [(.ref el), (.int 3), (.ref mr)]) (rest := []) (lenOf pd11 rfl) rfl (Nat.le_of_eq rfl) (hb hby d35_6) rfl (cN := 1) rfl (by decide) (sN := 3) rfl (by decide)
  obtain ⟨na_102, kna_102, rfl, Nq102, P102_0, P102_1, P102_2, P102_3⟩ := hQ102
  have N102 := Fr.app N0 Nq102
  have g_na_102 : n0 ≤ na_102 := Nat.le_trans Z0 P102_1
  have sz_na_102 : h0.size ≤ na_102 := Nat.le_trans (Keep.refl h0 []).1 P102_1
  have ZZ103 : n0 ≤ T102.heap.size := Nat.le_trans Z0 P102_0.1
  have KK104 : Keep h0 T102.heap [] := Keep.trans (Keep.refl h0 []) P102_0 all0
  obtain ⟨fs, hr, hrun, hended, hW, hsame⟩ := X102.leave (v := some (.ref na_102)) (fun h => by rw [Bd.returns] at h; cases h)
  refine ⟨_, _, pre0 _ ?_, hrun, hended, _, _, rfl, ?_, ⟨_, rfl⟩, hW, hsame.mono (by decide) (by decide)⟩
  · show own_S p e below s₁ m 0 #[oR el, oI 3] [] _
    refine XS.aloadN X0.here hx rfl (hb hby d35_0) rfl rfl ?_
    refine XS.iloadN X0.here hx rfl (hb hby d35_1) rfl ?_
    refine XS.aloadN X0.here hx rfl (hb hby d35_2) rfl rfl ?_
    show own_S p e below s₁ m 3 _ [(.ref el), (.int 3), (.ref el)] _
    refine st101 _ ?_
    show own_S p e below T101 m 6 _ [(.ref mr), (.int 3), (.ref el)] _
    refine st102.trans ?_
    show own_S p e below T102 m 9 _ [(.ref na_102)] _
    exact retOut X102 hx Bd.returns rfl (Or.inr (Or.inr (Or.inr (Or.inr ⟨rfl, rfl, rfl⟩)))) (hb hby d35_9) hr
  · show Q_c23_10 Z el kel x0 x1 x2 mr h0 n0 _ T102.heap _
    exact ⟨na_102, kna_102, rfl, N102, KK104, sz_na_102, P102_2, P102_3⟩
theorem pd12 : parseMethodDescriptor "([Ljava/lang/Object;I)[Ljava/lang/Object;" = some ⟨[(.array (.object kOB)), .int], some (.array (.object kOB))⟩ := by decide +kernel
theorem d34_0 : decode k34 0 = .ok (.aload_n 0, 1) := by decide +kernel
theorem d34_1 : decode k34 1 = .ok (.getfield 9, 3) := by decide +kernel
theorem d34_4 : decode k34 4 = .ok (.aload_n 0, 1) := by decide +kernel
theorem d34_5 : decode k34 5 = .ok (.getfield 48, 3) := by decide +kernel
theorem d34_8 : decode k34 8 = .ok (.invokestatic 66, 3) := by decide +kernel
theorem d34_11 : decode k34 11 = .ok (.areturn, 1) := by decide +kernel
theorem ef_ta3_10 (m : MethodId) (r0 : Addr) : entryFrame m #[(.ref r0)] 1 = mkF m 0 #[oR r0] [] := by first | (simp [entryFrame, mkF, argsToLocals, Value.category]; done) | rfl
def Q_ta3_10 (Z : State) (r0 : Addr) (el : Addr) (kel : ClassId) (x0 : Addr) (x1 : Addr) (x2 : Addr) (mr : Addr) (h0 : Heap) (n0 : Nat) (v : Option Value) (h : Heap) (L : List Loc) : Prop := ∃ na : Addr, ∃ kna : ClassId, v = some (.ref na) ∧ Fr n0 L ∧ (Keep h0 h []) ∧ (h0.size ≤ na) ∧ (Arv Z h na kna (.object kOB) (3 : Int32) [(.ref x0), (.ref x1), (.ref x2)] .null) ∧ (Exa Z h na kOA)
set_option maxRecDepth 65536 in
set_option maxHeartbeats 40000000 in
theorem rm_ta3_10 (l : Launch) (Z : State) (a0 : Array Value) (hw : own_HW Z a0) (ws : List Jvm.Cond) (r0 : Addr) (el : Addr) (kel : ClassId) (x0 : Addr) (x1 : Addr) (x2 : Addr) (mr : Addr) (h0 : Heap) (n0 : Nat) (Z0 : n0 ≤ h0.size) (E_r0 : Exa Z h0 r0 kAL) (F_elementData_r0 : Fld Z h0 r0 kAL "elementData" kOA (.ref el)) (F_size_r0 : Fld Z h0 r0 kAL "size" "I" (.int 3)) (V_el : Arv Z h0 el kel (.object kOB) (10 : Int32) [(.ref x0), (.ref x1), (.ref x2), .null] .null) (E_el : Exa Z h0 el kOA) (I_x0 : Ins Z h0 x0 kOB true) (I_x1 : Ins Z h0 x1 kOB true) (I_x2 : Ins Z h0 x2 kOB true) (M_mr : own_Mi Z kOA mr) :
    MetFree l (⟨kAL, "toArray", "()[Ljava/lang/Object;"⟩ : MethodName) (head1 (Jvm.Cond.code (⟨kAL, "toArray", "()[Ljava/lang/Object;"⟩ : MethodName) jdk_38_method_16_code 1 (some (.array (.object kOB))) :: ws) ({ frames := 3, cells := 1, slots := 3, locals := 48 } : Room)) (fun a U => a = #[(.ref r0)] ∧ Z.Warmed39 U.vm ∧ U.heap = h0) (fun _ _ _ _ _ => True) (fun _ U o U' => ∃ v L, o = .returned v ∧ Q_ta3_10 Z r0 el kel x0 x1 x2 mr h0 n0 v U'.heap L ∧ FrameEnd U o U' L ({ frames := 3, cells := 1, slots := 3, locals := 48 } : Room).cells ({ frames := 3, cells := 1, slots := 3, locals := 48 } : Room).slots) := by
  refine MetFree.of_bodySF (plainFor_of_name pn2) hisR ?_
  intro p e s m args below meth c s₁ Bd hml0 hP hK
  obtain ⟨rfl, hZ, hh⟩ := hP
  have hx := Bd.exec
  have hby := Bd.bytes
  have hml : c.maxLocals = 1 := hml0
  have hown : s.vm.findClass kAL = some m.cls := findClass_of_methodNamed Bd.named
  have hnm := (name_of_methodNamed Bd.named Bd.method).1
  have X0 : Stand p l e ({ frames := 3, cells := 1, slots := 3, locals := 48 } : Room) s m #[(.ref r0)] below meth c s₁ [] 0 0 := Stand.of_body Bd
  have e0 : s₁.heap = h0 := by rw [← hh, Bd.state]; rfl
  have N0 := Fr.nil n0
  have pre0 : ∀ t, Steps p.tables e below (s₁.setTop (mkF m 0 #[oR r0] [])) t → Steps p.tables e below (s₁.setTop (entryFrame m #[(.ref r0)] 1)) t := fun t k => castTop (ef_ta3_10 m r0) k
  obtain ⟨T101, X101, e101, st101⟩ := getF X0 hx hZ hown (host := "") (Or.inl (own_w hw 28 rfl)) Via.refl e0 F_elementData_r0 (g := (mkF m 1 #[oR r0] [(.ref r0)])) rfl rfl (hb hby d34_1)
  obtain ⟨T102, X102, e102, st102⟩ := getF X101 hx hZ hown (host := "") (Or.inl (own_w hw 60 rfl)) Via.refl e101 F_size_r0 (g := (mkF m 5 #[oR r0] [(.ref r0), (.ref el)])) rfl rfl (hb hby d34_5)
  obtain ⟨_, T103, L103, X103, hQ103, st103⟩ := own_cS X102 hx hZ hw hown (W := 0) (rm_c23_10 l Z a0 hw [] el kel x0 x1 x2 mr h0 n0 Z0 V_el E_el I_x0 I_x1 I_x2 M_mr) (by decide) (by decide) (by decide) 240 rfl 241 rfl 242 rfl 243 rfl e102 (g := (mkF m 8 #[oR r0] [(.int 3), (.ref el)])) rfl (by rw [hml]; rfl) (argsL := [(.ref el), (.int 3)]) (rest := []) (lenOf pd12 rfl) rfl (Nat.le_of_eq rfl) (hb hby d34_8) rfl (cN := 1) rfl (by decide) (sN := 3) rfl (by decide)
  obtain ⟨na_103, kna_103, rfl, Nq103, P103_0, P103_1, P103_2, P103_3⟩ := hQ103
  have N103 := Fr.app N0 Nq103
  have g_na_103 : n0 ≤ na_103 := Nat.le_trans Z0 P103_1
  have sz_na_103 : h0.size ≤ na_103 := Nat.le_trans (Keep.refl h0 []).1 P103_1
  have ZZ104 : n0 ≤ T103.heap.size := Nat.le_trans Z0 P103_0.1
  have KK105 : Keep h0 T103.heap [] := Keep.trans (Keep.refl h0 []) P103_0 all0
  obtain ⟨fs, hr, hrun, hended, hW, hsame⟩ := X103.leave (v := some (.ref na_103)) (fun h => by rw [Bd.returns] at h; cases h)
  refine ⟨_, _, pre0 _ ?_, hrun, hended, _, _, rfl, ?_, ⟨_, rfl⟩, hW, hsame.mono (by decide) (by decide)⟩
  · show own_S p e below s₁ m 0 #[oR r0] [] _
    refine XS.aloadN X0.here hx rfl (hb hby d34_0) rfl rfl ?_
    show own_S p e below s₁ m 1 _ [(.ref r0)] _
    refine st101 _ ?_
    show own_S p e below T101 m 4 _ [(.ref el)] _
    refine XS.aloadN X101.here hx rfl (hb hby d34_4) rfl rfl ?_
    show own_S p e below T101 m 5 _ [(.ref r0), (.ref el)] _
    refine st102 _ ?_
    show own_S p e below T102 m 8 _ [(.int 3), (.ref el)] _
    refine st103.trans ?_
    show own_S p e below T103 m 11 _ [(.ref na_103)] _
    exact retOut X103 hx Bd.returns rfl (Or.inr (Or.inr (Or.inr (Or.inr ⟨rfl, rfl, rfl⟩)))) (hb hby d34_11) hr
  · show Q_ta3_10 Z r0 el kel x0 x1 x2 mr h0 n0 _ T103.heap _
    exact ⟨na_103, kna_103, rfl, N103, KK105, sz_na_103, P103_2, P103_3⟩
theorem pd13 : parseMethodDescriptor "([Ljava/lang/Object;Z)V" = some ⟨[(.array (.object kOB)), .boolean], none⟩ := by decide +kernel
theorem own_mvM {Z s : State} {a0 args : Array Value} {own host : String} {index : Nat} {y : MethodName} (hZ : Z.Warmed39 s.vm) (w : (Jvm.Cond.methodLinkNest own index y host).before a0 Z = true) : (Jvm.Cond.methodLinkNest own index y host).before args s = true := (Cond.methodLinkNest_wide hZ w :)
theorem own_specialNest {p : Program} {l : Launch} {e : Env} {R : Room} {s : State} {m : MethodId} {args : Array Value} {below : List Frame} {meth : Method} {c : Code} {T : State} {locs : List Loc} {cells slots : Nat} (X : Stand p l e R s m args below meth c T locs cells slots) (hexec : p.tables.exec = Jvm.exec) {own host : String} {index : Nat} {y : MethodName} (hy1 : y.name = "<init>")
    (hown : s.vm.findClass own = some m.cls) (hlink : (Jvm.Cond.methodLinkNest own index y host).before args s = true) (hinst : (Jvm.Cond.instanceMethod y).before args s = true) {bytes : ByteArray} {maxL : Nat} (hcode : (Jvm.Cond.code y bytes maxL none).before args s = true)
    (hy : y.cls ≠ "java/lang/invoke/MethodHandle" ∧ y.cls ≠ "java/lang/invoke/VarHandle") {W : Nat} {Pre : Pt → Array Value → Prop} {Post : Pt → Array Value → Option Value → Pt → Prop} (hK : Back l R p e below s args y 3 W Pre Post)
    {g : JFrame} (hg : g.method = m) (hsize : g.locals.size = c.maxLocals) {s0 : State} (hcome : Steps p.tables e below s0 (T.setTop g)) {a : Addr} {argsL rest : List Value}
    (hlen : ∀ sig, parseMethodDescriptor y.desc = some sig → argsL.length = sig.parameters.length) (hstack : g.stack = argsL.reverse ++ .ref a :: rest) (hW : 2 * g.monitorRoom + (rest.map fun v => v.category).sum ≤ W)
    (hdg : decode c.code g.pc = .ok (.invokespecial index, 3)) (hpre : ∀ vm1, s.WarmedH vm1 → Pre ⟨T.setVm vm1, locs, cells, slots⟩ (.ref a :: argsL).toArray) :
    ∃ (v : Option Value) (vm1 : Vm) (B : Pt), s.WarmedH vm1 ∧ Stand p l e R s m args below meth c B.U B.locs B.cells B.slots ∧ Post ⟨T.setVm vm1, locs, cells, slots⟩ (.ref a :: argsL).toArray v B ∧
      Steps p.tables e below s0 (B.U.setTop { g with pc := g.pc + 3, stack := v.toList ++ rest }) := by
  have hpl : e.platform.magicAccessors = ({} : Platform).magicAccessors := by rw [X.admits.platform]
  obtain ⟨mk, _, _, _, vm1, hnamed, _, _, _, _, _, _, _, hW1, hstep⟩ := Steps.initColdArgsNest (e := e) X.here hexec X.warmed hpl hown hy1 hy hlink hinst hcode (f := g) hg hlen hstack hdg
  have X1 := X.noted hW1
  obtain ⟨v, B, X2, hpost, hst⟩ := hK m meth c ⟨T.setVm vm1, locs, cells, slots⟩ { g with stack := rest } (.invokespecial index) mk (.ref a :: argsL).toArray X1 hg hsize hdg hW (X1.named hnamed) (hpre vm1 hW1)
  exact ⟨v, vm1, B, hW1, X2, hpost, (hcome.trans (hstep _ fun acts => by rw [doInvoke_state]; exact Steps.refl _)).trans hst⟩
theorem d39_0 : decode k39 0 = .ok (.aload_n 0, 1) := by decide +kernel
theorem d39_1 : decode k39 1 = .ok (.arraylength, 1) := by decide +kernel
theorem d39_2 : decode k39 2 = .ok (.anewarray 2, 3) := by decide +kernel
theorem d39_5 : decode k39 5 = .ok (.astore_n 1, 1) := by decide +kernel
theorem d39_6 : decode k39 6 = .ok (.iconst 0, 1) := by decide +kernel
theorem d39_7 : decode k39 7 = .ok (.istore_n 2, 1) := by decide +kernel
theorem d39_8 : decode k39 8 = .ok (.iload_n 2, 1) := by decide +kernel
theorem d39_9 : decode k39 9 = .ok (.aload_n 0, 1) := by decide +kernel
theorem d39_10 : decode k39 10 = .ok (.arraylength, 1) := by decide +kernel
theorem d39_11 : decode k39 11 = .ok (.if_icmp .ge 18, 3) := by decide +kernel
theorem d39_14 : decode k39 14 = .ok (.aload_n 1, 1) := by decide +kernel
theorem d39_15 : decode k39 15 = .ok (.iload_n 2, 1) := by decide +kernel
theorem d39_16 : decode k39 16 = .ok (.aload_n 0, 1) := by decide +kernel
theorem d39_17 : decode k39 17 = .ok (.iload_n 2, 1) := by decide +kernel
theorem d39_18 : decode k39 18 = .ok (.aaload, 1) := by decide +kernel
theorem d39_19 : decode k39 19 = .ok (.invokestatic 37, 3) := by decide +kernel
theorem d39_22 : decode k39 22 = .ok (.aastore, 1) := by decide +kernel
theorem d39_23 : decode k39 23 = .ok (.iinc 2 1, 3) := by decide +kernel
theorem d39_26 : decode k39 26 = .ok (.goto (-18), 3) := by decide +kernel
theorem d39_29 : decode k39 29 = .ok (.new 12, 3) := by decide +kernel
theorem d39_32 : decode k39 32 = .ok (.dup, 1) := by decide +kernel
theorem d39_33 : decode k39 33 = .ok (.aload_n 1, 1) := by decide +kernel
theorem d39_34 : decode k39 34 = .ok (.iconst 0, 1) := by decide +kernel
theorem d39_35 : decode k39 35 = .ok (.invokespecial 43, 3) := by decide +kernel
theorem d39_38 : decode k39 38 = .ok (.areturn, 1) := by decide +kernel
theorem pn13 : plainName "java/util/ImmutableCollections" = true := by first | (simp [plainName, overriddenIn]; done) | decide +kernel
theorem ef_lf3_10 (m : MethodId) (r0 : Addr) : entryFrame m #[(.ref r0)] 3 = mkF m 0 #[oR r0, oU, oU] [] := by first | (simp [entryFrame, mkF, argsToLocals, Value.category]; done) | rfl
def Q_lf3_10 (Z : State) (r0 : Addr) (k0 : ClassId) (x0 : Addr) (x1 : Addr) (x2 : Addr) (h0 : Heap) (n0 : Nat) (v : Option Value) (h : Heap) (L : List Loc) : Prop := ∃ LL : Addr, ∃ A : Addr, ∃ kA : ClassId, v = some (.ref LL) ∧ Fr n0 L ∧ (Keep h0 h []) ∧ (h0.size ≤ LL) ∧ (h0.size ≤ A) ∧ (Exa Z h LL kLN) ∧ (Fld Z h LL kLN "elements" kOA (.ref A)) ∧ (Fld Z h LL kLN "allowNulls" "Z" (.int 0)) ∧ (Arv Z h A kA (.object kOB) (3 : Int32) [(.ref x0), (.ref x1), (.ref x2)] .null) ∧ (Exa Z h A kOA)
set_option maxRecDepth 65536 in
set_option maxHeartbeats 40000000 in
theorem rm_lf3_10 (l : Launch) (Z : State) (a0 : Array Value) (hw : own_HW Z a0) (ws : List Jvm.Cond) (r0 : Addr) (k0 : ClassId) (x0 : Addr) (x1 : Addr) (x2 : Addr) (h0 : Heap) (n0 : Nat) (Z0 : n0 ≤ h0.size) (V_r0 : Arv Z h0 r0 k0 (.object kOB) (3 : Int32) [(.ref x0), (.ref x1), (.ref x2)] .null) (E_r0 : Exa Z h0 r0 kOA) (I_x0 : Ins Z h0 x0 kOB true) (I_x1 : Ins Z h0 x1 kOB true) (I_x2 : Ins Z h0 x2 kOB true) :
    MetFree l (⟨"java/util/ImmutableCollections", "listFromArray", "([Ljava/lang/Object;)Ljava/util/List;"⟩ : MethodName) (head1 (Jvm.Cond.code (⟨"java/util/ImmutableCollections", "listFromArray", "([Ljava/lang/Object;)Ljava/util/List;"⟩ : MethodName) jdk_56_method_4_code 3 (some (.object "java/util/List")) :: ws) ({ frames := 5, cells := 2, slots := 5, locals := 63 } : Room)) (fun a U => a = #[(.ref r0)] ∧ Z.Warmed39 U.vm ∧ U.heap = h0) (fun _ _ _ _ _ => True) (fun _ U o U' => ∃ v L, o = .returned v ∧ Q_lf3_10 Z r0 k0 x0 x1 x2 h0 n0 v U'.heap L ∧ FrameEnd U o U' L ({ frames := 5, cells := 2, slots := 5, locals := 63 } : Room).cells ({ frames := 5, cells := 2, slots := 5, locals := 63 } : Room).slots) := by
  refine MetFree.of_bodySF (plainFor_of_name pn13) hisR ?_
  intro p e s m args below meth c s₁ Bd hml0 hP hK
  obtain ⟨rfl, hZ, hh⟩ := hP
  have hx := Bd.exec
  have hby := Bd.bytes
  have hml : c.maxLocals = 3 := hml0
  have hown : s.vm.findClass "java/util/ImmutableCollections" = some m.cls := findClass_of_methodNamed Bd.named
  have hnm := (name_of_methodNamed Bd.named Bd.method).1
  have X0 : Stand p l e ({ frames := 5, cells := 2, slots := 5, locals := 63 } : Room) s m #[(.ref r0)] below meth c s₁ [] 0 0 := Stand.of_body Bd
  have e0 : s₁.heap = h0 := by rw [← hh, Bd.state]; rfl
  have N0 := Fr.nil n0
  have pre0 : ∀ t, Steps p.tables e below (s₁.setTop (mkF m 0 #[oR r0, oU, oU] [])) t → Steps p.tables e below (s₁.setTop (entryFrame m #[(.ref r0)] 3)) t := fun t k => castTop (ef_lf3_10 m r0) k
  obtain ⟨cl101, Ar101, qk101, Sz101, Nz101, Hh101, Gg101⟩ := id V_r0
  obtain ⟨T102, h102, k102, X102, e102, E102, A102, Ea102, O102, st102⟩ := newRE X0 hx hZ hown (own_w hw 268 rfl) (own_w hw 82 rfl) e0 (g := (mkF m 2 #[oR r0, oU, oU] [(.int 3)])) rfl (hb hby d39_2) rfl (by decide) (cap := 3) (by decide) (by decide) (by decide) (by decide) (ad := kOA) (by decide)
  obtain ⟨b102, g102⟩ : ∃ z, z = h0.size := ⟨_, rfl⟩
  rw [← g102] at A102 Ea102 st102
  have g_b102 : n0 ≤ b102 := Nat.le_trans Z0 (Nat.le_of_eq g102.symm)
  have sz_b102 : h0.size ≤ b102 := Nat.le_trans (Keep.refl h0 []).1 (Nat.le_of_eq g102.symm)
  have ZZ103 : n0 ≤ h102.size := Nat.le_trans Z0 E102.1
  have KK104 : Keep h0 h102 [] := (Keep.refl h0 []).ext E102
  have V_b102 : Arv Z h102 b102 k102 (.object kOB) (3 : Int32) [.null, .null, .null] .null := (Arv.new A102 (by decide)).pad (pad_rep [] .null 3)
  obtain ⟨cl105, Ar105, qk105, Sz105, Nz105, Hh105, Gg105⟩ := id (V_r0.ext E102)
  obtain ⟨cl106, Ar106, qk106, Sz106, Nz106, Hh106, Gg106⟩ := id (V_r0.ext E102)
  have hin107 : ¬ ((0 : Int32) < 0 ∨ cl106.slots.size ≤ ((0 : Int32)).toNatClampNeg) := inb_of Sz106 ⟨by decide, by decide⟩
  have hat107 : cl106.slots[((0 : Int32)).toNatClampNeg]? = some (.ref x0) := Has.at Hh106 hin107 rfl
  obtain ⟨_, T108, L108, X108, hQ108, st108⟩ := own_cS X102 hx hZ hw hown (W := 2) (rmm40 l Z a0 hw [] x0 h102 n0 ZZ103 ) (by decide) (by decide) (by decide) 269 rfl 270 rfl 108 rfl 271 rfl e102 (g := (mkF m 19 #[oR r0, oR b102, oI 0] [(.ref x0), (.int 0), (.ref b102)])) rfl (by rw [hml]; rfl) (argsL := [(.ref x0)]) (rest := [(.int 0), (.ref b102)]) (lenOf pd10 rfl) rfl (Nat.le_of_eq rfl) (hb hby d39_19) rfl (cN := 1) rfl (by decide) (sN := 3) rfl (by decide)
  obtain ⟨rfl, Nq108, P108_0⟩ := hQ108
  have N108 := Fr.app N0 Nq108
  obtain ⟨cl109, Ar109, qk109, Sz109, Nz109, Hh109, Gg109⟩ := id V_b102
  have hin110 : ¬ ((0 : Int32) < 0 ∨ cl109.slots.size ≤ ((0 : Int32)).toNatClampNeg) := inb_of Sz109 ⟨by decide, by decide⟩
  obtain ⟨T111, h111, X111, e111, W111, st111⟩ := stR X108 hx hZ P108_0 Ar109 (j := (0 : Int32)) hin110 rfl (Sto.ofV Ar109 qk109 O102 (I_x0.ext E102)) (g := (mkF m 22 #[oR r0, oR b102, oI 0] [(.ref x0), (.int 0), (.ref b102)])) rfl rfl (hb hby d39_22)
  have Va111 := Arv.set Ar109 qk109 Sz109 Nz109 Hh109 Gg109 rfl W111 0 rfl (Nat.le_of_ble_eq_true rfl)
  have N111 := Fr.snoc X111 N108 g_b102
  have ZZ112 : n0 ≤ h111.size := Nat.le_trans ZZ103 (Nat.le_of_eq W111.size.symm)
  have KK113 : Keep h0 h111 [] := KK104.wr W111 (Or.inr sz_b102)
  have Fc114 := (V_r0.keep KK113 nin0)
  obtain ⟨cl115, Ar115, qk115, Sz115, Nz115, Hh115, Gg115⟩ := id Fc114
  have hin116 : ¬ ((1 : Int32) < 0 ∨ cl115.slots.size ≤ ((1 : Int32)).toNatClampNeg) := inb_of Sz115 ⟨by decide, by decide⟩
  have hat116 : cl115.slots[((1 : Int32)).toNatClampNeg]? = some (.ref x1) := Has.at Hh115 hin116 rfl
  obtain ⟨_, T117, L117, X117, hQ117, st117⟩ := own_cS X111 hx hZ hw hown (W := 2) (rmm40 l Z a0 hw [] x1 h111 n0 ZZ112 ) (by decide) (by decide) (by decide) 269 rfl 270 rfl 108 rfl 271 rfl e111 (g := (mkF m 19 #[oR r0, oR b102, oI 1] [(.ref x1), (.int 1), (.ref b102)])) rfl (by rw [hml]; rfl) (argsL := [(.ref x1)]) (rest := [(.int 1), (.ref b102)]) (lenOf pd10 rfl) rfl (Nat.le_of_eq rfl) (hb hby d39_19) rfl (cN := 1) rfl (by decide) (sN := 3) rfl (by decide)
  obtain ⟨rfl, Nq117, P117_0⟩ := hQ117
  have N117 := Fr.app N111 Nq117
  obtain ⟨cl118, Ar118, qk118, Sz118, Nz118, Hh118, Gg118⟩ := id Va111
  have hin119 : ¬ ((1 : Int32) < 0 ∨ cl118.slots.size ≤ ((1 : Int32)).toNatClampNeg) := inb_of Sz118 ⟨by decide, by decide⟩
  have Fc120 := (own_insKeep I_x1 KK113)
  obtain ⟨T121, h121, X121, e121, W121, st121⟩ := stR X117 hx hZ P117_0 Ar118 (j := (1 : Int32)) hin119 rfl (Sto.ofV Ar118 qk118 O102 Fc120) (g := (mkF m 22 #[oR r0, oR b102, oI 1] [(.ref x1), (.int 1), (.ref b102)])) rfl rfl (hb hby d39_22)
  have Va121 := Arv.set Ar118 qk118 Sz118 Nz118 Hh118 Gg118 rfl W121 1 rfl (Nat.le_of_ble_eq_true rfl)
  have N121 := Fr.snoc X121 N117 g_b102
  have ZZ122 : n0 ≤ h121.size := Nat.le_trans ZZ112 (Nat.le_of_eq W121.size.symm)
  have KK123 : Keep h0 h121 [] := KK113.wr W121 (Or.inr sz_b102)
  have Fc124 := (V_r0.keep KK123 nin0)
  obtain ⟨cl125, Ar125, qk125, Sz125, Nz125, Hh125, Gg125⟩ := id Fc124
  have hin126 : ¬ ((2 : Int32) < 0 ∨ cl125.slots.size ≤ ((2 : Int32)).toNatClampNeg) := inb_of Sz125 ⟨by decide, by decide⟩
  have hat126 : cl125.slots[((2 : Int32)).toNatClampNeg]? = some (.ref x2) := Has.at Hh125 hin126 rfl
  obtain ⟨_, T127, L127, X127, hQ127, st127⟩ := own_cS X121 hx hZ hw hown (W := 2) (rmm40 l Z a0 hw [] x2 h121 n0 ZZ122 ) (by decide) (by decide) (by decide) 269 rfl 270 rfl 108 rfl 271 rfl e121 (g := (mkF m 19 #[oR r0, oR b102, oI 2] [(.ref x2), (.int 2), (.ref b102)])) rfl (by rw [hml]; rfl) (argsL := [(.ref x2)]) (rest := [(.int 2), (.ref b102)]) (lenOf pd10 rfl) rfl (Nat.le_of_eq rfl) (hb hby d39_19) rfl (cN := 1) rfl (by decide) (sN := 3) rfl (by decide)
  obtain ⟨rfl, Nq127, P127_0⟩ := hQ127
  have N127 := Fr.app N121 Nq127
  obtain ⟨cl128, Ar128, qk128, Sz128, Nz128, Hh128, Gg128⟩ := id Va121
  have hin129 : ¬ ((2 : Int32) < 0 ∨ cl128.slots.size ≤ ((2 : Int32)).toNatClampNeg) := inb_of Sz128 ⟨by decide, by decide⟩
  have Fc130 := (own_insKeep I_x2 KK123)
  obtain ⟨T131, h131, X131, e131, W131, st131⟩ := stR X127 hx hZ P127_0 Ar128 (j := (2 : Int32)) hin129 rfl (Sto.ofV Ar128 qk128 O102 Fc130) (g := (mkF m 22 #[oR r0, oR b102, oI 2] [(.ref x2), (.int 2), (.ref b102)])) rfl rfl (hb hby d39_22)
  have Va131 := Arv.set Ar128 qk128 Sz128 Nz128 Hh128 Gg128 rfl W131 2 rfl (Nat.le_of_ble_eq_true rfl)
  have N131 := Fr.snoc X131 N127 g_b102
  have ZZ132 : n0 ≤ h131.size := Nat.le_trans ZZ122 (Nat.le_of_eq W131.size.symm)
  have KK133 : Keep h0 h131 [] := KK123.wr W131 (Or.inr sz_b102)
  have Fc134 := (V_r0.keep KK133 nin0)
  obtain ⟨cl135, Ar135, qk135, Sz135, Nz135, Hh135, Gg135⟩ := id Fc134
  obtain ⟨T136, h136, X136, e136, E136, A136, D136, -, st136⟩ := newO X131 hx hZ hown (own_w hw 226 rfl) (own_w hw 272 rfl) (own_w hw 273 rfl) e131 (g := (mkF m 29 #[oR r0, oR b102, oI 3] [])) rfl (hb hby d39_29) (by decide) (by decide)
  obtain ⟨b136, g136⟩ : ∃ z, z = h131.size := ⟨_, rfl⟩
  rw [← g136] at A136 D136 st136
  have g_b136 : n0 ≤ b136 := Nat.le_trans ZZ132 (Nat.le_of_eq g136.symm)
  have sz_b136 : h0.size ≤ b136 := Nat.le_trans KK133.1 (Nat.le_of_eq g136.symm)
  have ZZ137 : n0 ≤ h136.size := Nat.le_trans ZZ132 E136.1
  have KK138 : Keep h0 h136 [] := KK133.ext E136
  have F_elements_b136 : Fld Z h136 b136 kLN "elements" kOA .null := D136 (Or.inr (own_w hw 293 rfl)) (ty := (.array (.object kOB))) (by decide)
  have F_allowNulls_b136 : Fld Z h136 b136 kLN "allowNulls" "Z" (.int 0) := D136 (Or.inr (own_w hw 295 rfl)) (ty := .boolean) (by decide)
  obtain ⟨_, _, ⟨T139, L139, k139, n139⟩, -, X139, ⟨Lc139, hQ139, l139, y139, z139⟩, st139⟩ := own_specialNest X136 hx (y := (⟨kLN, "<init>", "([Ljava/lang/Object;Z)V"⟩ : MethodName)) rfl hown (own_mvM hZ (own_w hw 274 rfl)) (mvT hZ (own_w hw 275 rfl)) (mvT hZ (own_w hw 277 rfl)) (by decide) (backOf (W := 1) (rmm41 l Z a0 hw [] b136 b102 .null (.int 0) h136 n0 ZZ137 A136 g_b136 F_elements_b136 F_allowNulls_b136) hZ (own_w hw 277 rfl) (own_w hw 273 rfl) (by decide) (by decide)) (g := (mkF m 35 #[oR r0, oR b102, oI 3] [(.int 0), (.ref b102), (.ref b136), (.ref b136)])) rfl (by rw [hml]; rfl) (Steps.refl _) (a := b136) (argsL := [(.ref b102), (.int 0)]) (rest := [(.ref b136)]) (lenOf pd13 rfl) rfl (by show 2 * 0 + _ ≤ _; exact Nat.le_of_eq rfl) (hb hby d39_35) (fun _ _ => ⟨rfl, e136, (by decide : 2 + 0 ≤ _), (by decide : 5 + 0 ≤ _)⟩)
  dsimp only [Pt.U, Pt.locs, Pt.cells, Pt.slots] at X139 l139 y139 z139 st139 hQ139
  subst l139 y139 z139
  obtain ⟨rfl, Nq139, P139_0, P139_1, P139_2⟩ := hQ139
  have N139 := Fr.app N131 Nq139
  have ZZ140 : n0 ≤ T139.heap.size := Nat.le_trans ZZ137 P139_0.1
  have KK141 : Keep h0 T139.heap [] := Keep.trans KK138 P139_0 (allS (Or.inr sz_b136) all0)
  have nq142 : b102 ≠ b136 := (Nat.ne_of_lt (Nat.lt_of_lt_of_le Va131.lt (Nat.le_of_eq g136.symm)))
  obtain ⟨fs, hr, hrun, hended, hW, hsame⟩ := X139.leave (v := some (.ref b136)) (fun h => by rw [Bd.returns] at h; cases h)
  refine ⟨_, _, pre0 _ ?_, hrun, hended, _, _, rfl, ?_, ⟨_, rfl⟩, hW, hsame.mono (by decide) (by decide)⟩
  · show own_S p e below s₁ m 0 #[oR r0, oU, oU] [] _
    refine XS.aloadN X0.here hx rfl (hb hby d39_0) rfl rfl ?_
    show own_S p e below s₁ m 1 _ [(.ref r0)] _
    refine X0.arraylength hx (by rw [e0]; exact Ar101.1) (State.isArrayOf_alike hZ.alike Ar101.2.1) (g := (mkF m 1 #[oR r0, oU, oU] [(.ref r0)])) rfl rfl (hb hby d39_1) _ ?_
    rw [len_of Sz101 Nz101]
    show own_S p e below s₁ m 2 _ [(.int 3)] _
    refine st102 _ ?_
    show own_S p e below T102 m 5 _ [(.ref b102)] _
    refine XS.astoreN X102.here hx rfl (hb hby d39_5) rfl rfl (l' := #[oR r0, oR b102, oU]) rfl ?_
    refine XS.iconst X102.here hx rfl (hb hby d39_6) ?_
    refine XS.istoreN X102.here hx rfl (hb hby d39_7) rfl (l' := #[oR r0, oR b102, oI 0]) rfl ?_
    refine XS.iloadN X102.here hx rfl (hb hby d39_8) rfl ?_
    show own_S p e below T102 m 9 _ [(.int 0)] _
    refine XS.aloadN X102.here hx rfl (hb hby d39_9) rfl rfl ?_
    show own_S p e below T102 m 10 _ [(.ref r0), (.int 0)] _
    refine X102.arraylength hx (by rw [e102]; exact Ar105.1) (State.isArrayOf_alike hZ.alike Ar105.2.1) (g := (mkF m 10 #[oR r0, oR b102, oI 0] [(.ref r0), (.int 0)])) rfl rfl (hb hby d39_10) _ ?_
    rw [len_of Sz105 Nz105]
    show own_S p e below T102 m 11 _ [(.int 3), (.int 0)] _
    refine XS.icmpNo X102.here hx rfl (hb hby d39_11) rfl (tlt (by decide : (0 : Int32) < (3 : Int32))).2.1 ?_
    refine XS.aloadN X102.here hx rfl (hb hby d39_14) rfl rfl ?_
    refine XS.iloadN X102.here hx rfl (hb hby d39_15) rfl ?_
    refine XS.aloadN X102.here hx rfl (hb hby d39_16) rfl rfl ?_
    show own_S p e below T102 m 17 #[oR r0, oR b102, oI 0] [(.ref r0), (.int 0), (.ref b102)] _
    refine XS.iloadN X102.here hx rfl (hb hby d39_17) rfl ?_
    show own_S p e below T102 m 18 _ [(.int 0), (.ref r0), (.int 0), (.ref b102)] _
    refine X102.aaload hx (j := (0 : Int32)) (v := (.ref x0)) (by rw [e102]; exact Ar106.1) (State.isArrayOf_alike hZ.alike Ar106.2.1) rfl Ar106.2.2 hin107 hat107 (g := (mkF m 18 #[oR r0, oR b102, oI 0] [(.int 0), (.ref r0), (.int 0), (.ref b102)])) rfl rfl (hb hby d39_18) _ ?_
    show own_S p e below T102 m 19 _ [(.ref x0), (.int 0), (.ref b102)] _
    refine st108.trans ?_
    show own_S p e below T108 m 22 _ [(.ref x0), (.int 0), (.ref b102)] _
    refine st111 _ ?_
    show own_S p e below T111 m 23 _ [] _
    refine XS.iinc X111.here hx rfl (hb hby d39_23) rfl (l' := #[oR r0, oR b102, oI 1]) rfl ?_
    refine XS.goto X111.here hx rfl (pc0 := 26) (pc' := 8) rfl (hb hby d39_26) (by decide) (by decide) ?_
    refine XS.iloadN X111.here hx rfl (hb hby d39_8) rfl ?_
    refine XS.aloadN X111.here hx rfl (hb hby d39_9) rfl rfl ?_
    show own_S p e below T111 m 10 _ [(.ref r0), (.int 1)] _
    refine X111.arraylength hx (by rw [e111]; exact Ar115.1) (State.isArrayOf_alike hZ.alike Ar115.2.1) (g := (mkF m 10 #[oR r0, oR b102, oI 1] [(.ref r0), (.int 1)])) rfl rfl (hb hby d39_10) _ ?_
    rw [len_of Sz115 Nz115]
    show own_S p e below T111 m 11 _ [(.int 3), (.int 1)] _
    refine XS.icmpNo X111.here hx rfl (hb hby d39_11) rfl (tlt (by decide : (1 : Int32) < (3 : Int32))).2.1 ?_
    refine XS.aloadN X111.here hx rfl (hb hby d39_14) rfl rfl ?_
    refine XS.iloadN X111.here hx rfl (hb hby d39_15) rfl ?_
    refine XS.aloadN X111.here hx rfl (hb hby d39_16) rfl rfl ?_
    show own_S p e below T111 m 17 _ [(.ref r0), (.int 1), (.ref b102)] _
    refine XS.iloadN X111.here hx rfl (hb hby d39_17) rfl ?_
    show own_S p e below T111 m 18 _ [(.int 1), (.ref r0), (.int 1), (.ref b102)] _
    refine X111.aaload hx (j := (1 : Int32)) (v := (.ref x1)) (by rw [e111]; exact Ar115.1) (State.isArrayOf_alike hZ.alike Ar115.2.1) rfl Ar115.2.2 hin116 hat116 (g := (mkF m 18 #[oR r0, oR b102, oI 1] [(.int 1), (.ref r0), (.int 1), (.ref b102)])) rfl rfl (hb hby d39_18) _ ?_
    show own_S p e below T111 m 19 _ [(.ref x1), (.int 1), (.ref b102)] _
    refine st117.trans ?_
    show own_S p e below T117 m 22 _ [(.ref x1), (.int 1), (.ref b102)] _
    refine st121 _ ?_
    show own_S p e below T121 m 23 _ [] _
    refine XS.iinc X121.here hx rfl (hb hby d39_23) rfl (l' := #[oR r0, oR b102, oI 2]) rfl ?_
    refine XS.goto X121.here hx rfl (pc0 := 26) (pc' := 8) rfl (hb hby d39_26) (by decide) (by decide) ?_
    refine XS.iloadN X121.here hx rfl (hb hby d39_8) rfl ?_
    refine XS.aloadN X121.here hx rfl (hb hby d39_9) rfl rfl ?_
    show own_S p e below T121 m 10 _ [(.ref r0), (.int 2)] _
    refine X121.arraylength hx (by rw [e121]; exact Ar125.1) (State.isArrayOf_alike hZ.alike Ar125.2.1) (g := (mkF m 10 #[oR r0, oR b102, oI 2] [(.ref r0), (.int 2)])) rfl rfl (hb hby d39_10) _ ?_
    rw [len_of Sz125 Nz125]
    show own_S p e below T121 m 11 _ [(.int 3), (.int 2)] _
    refine XS.icmpNo X121.here hx rfl (hb hby d39_11) rfl (tlt (by decide : (2 : Int32) < (3 : Int32))).2.1 ?_
    refine XS.aloadN X121.here hx rfl (hb hby d39_14) rfl rfl ?_
    refine XS.iloadN X121.here hx rfl (hb hby d39_15) rfl ?_
    refine XS.aloadN X121.here hx rfl (hb hby d39_16) rfl rfl ?_
    show own_S p e below T121 m 17 _ [(.ref r0), (.int 2), (.ref b102)] _
    refine XS.iloadN X121.here hx rfl (hb hby d39_17) rfl ?_
    show own_S p e below T121 m 18 _ [(.int 2), (.ref r0), (.int 2), (.ref b102)] _
    refine X121.aaload hx (j := (2 : Int32)) (v := (.ref x2)) (by rw [e121]; exact Ar125.1) (State.isArrayOf_alike hZ.alike Ar125.2.1) rfl Ar125.2.2 hin126 hat126 (g := (mkF m 18 #[oR r0, oR b102, oI 2] [(.int 2), (.ref r0), (.int 2), (.ref b102)])) rfl rfl (hb hby d39_18) _ ?_
    show own_S p e below T121 m 19 _ [(.ref x2), (.int 2), (.ref b102)] _
    refine st127.trans ?_
    show own_S p e below T127 m 22 _ [(.ref x2), (.int 2), (.ref b102)] _
    refine st131 _ ?_
    show own_S p e below T131 m 23 _ [] _
    refine XS.iinc X131.here hx rfl (hb hby d39_23) rfl (l' := #[oR r0, oR b102, oI 3]) rfl ?_
    refine XS.goto X131.here hx rfl (pc0 := 26) (pc' := 8) rfl (hb hby d39_26) (by decide) (by decide) ?_
    refine XS.iloadN X131.here hx rfl (hb hby d39_8) rfl ?_
    refine XS.aloadN X131.here hx rfl (hb hby d39_9) rfl rfl ?_
    show own_S p e below T131 m 10 _ [(.ref r0), (.int 3)] _
    refine X131.arraylength hx (by rw [e131]; exact Ar135.1) (State.isArrayOf_alike hZ.alike Ar135.2.1) (g := (mkF m 10 #[oR r0, oR b102, oI 3] [(.ref r0), (.int 3)])) rfl rfl (hb hby d39_10) _ ?_
    rw [len_of Sz135 Nz135]
    show own_S p e below T131 m 11 _ [(.int 3), (.int 3)] _
    refine XS.icmpYes X131.here hx rfl (pc0 := 11) (pc' := 29) rfl (hb hby d39_11) rfl (flt (by decide : ¬ ((3 : Int32) < (3 : Int32)))).2.1 (by decide) (by decide) ?_
    show own_S p e below T131 m 29 _ [] _
    refine st136 _ ?_
    show own_S p e below T136 m 32 _ [(.ref b136)] _
    refine XS.dup X136.here hx rfl (hb hby d39_32) rfl rfl ?_
    refine XS.aloadN X136.here hx rfl (hb hby d39_33) rfl rfl ?_
    refine XS.iconst X136.here hx rfl (hb hby d39_34) ?_
    show own_S p e below T136 m 35 _ [(.int 0), (.ref b102), (.ref b136), (.ref b136)] _
    refine st139.trans ?_
    show own_S p e below T139 m 38 _ [(.ref b136)] _
    exact retOut X139 hx Bd.returns rfl (Or.inr (Or.inr (Or.inr (Or.inr ⟨rfl, rfl, rfl⟩)))) (hb hby d39_38) hr
  · show Q_lf3_10 Z r0 k0 x0 x1 x2 h0 n0 _ T139.heap _
    exact ⟨b136, b102, k102, rfl, N139, KK141, sz_b136, sz_b102, (A136.keep P139_0), P139_1, P139_2, ((Va131.ext E136).keep P139_0 (ninS nq142 nin0)), (((((Ea102.wr W111).wr W121).wr W131).ext E136).keep P139_0)⟩
theorem pd14 : parseMethodDescriptor "([Ljava/lang/Object;)Ljava/util/List;" = some ⟨[(.array (.object kOB))], some (.object "java/util/List")⟩ := by decide +kernel
theorem d38_0 : decode k38 0 = .ok (.aload_n 0, 1) := by decide +kernel
theorem d38_1 : decode k38 1 = .ok (.arraylength, 1) := by decide +kernel
theorem d38_2 : decode k38 2 = .ok (.tableswitch 57 0 2 #[26, 32, 43], 26) := by decide +kernel
theorem d38_59 : decode k38 59 = .ok (.aload_n 0, 1) := by decide +kernel
theorem d38_60 : decode k38 60 = .ok (.invokestatic 109, 3) := by decide +kernel
theorem d38_63 : decode k38 63 = .ok (.areturn, 1) := by decide +kernel
theorem pn14 : plainName "java/util/List" = true := by first | (simp [plainName, overriddenIn]; done) | decide +kernel
theorem ef_of3_10 (m : MethodId) (r0 : Addr) : entryFrame m #[(.ref r0)] 2 = mkF m 0 #[oR r0, oU] [] := by first | (simp [entryFrame, mkF, argsToLocals, Value.category]; done) | rfl
def Q_of3_10 (Z : State) (r0 : Addr) (k0 : ClassId) (x0 : Addr) (x1 : Addr) (x2 : Addr) (h0 : Heap) (n0 : Nat) (v : Option Value) (h : Heap) (L : List Loc) : Prop := ∃ LL : Addr, ∃ A : Addr, ∃ kA : ClassId, v = some (.ref LL) ∧ Fr n0 L ∧ (Keep h0 h []) ∧ (h0.size ≤ LL) ∧ (h0.size ≤ A) ∧ (Exa Z h LL kLN) ∧ (Fld Z h LL kLN "elements" kOA (.ref A)) ∧ (Fld Z h LL kLN "allowNulls" "Z" (.int 0)) ∧ (Arv Z h A kA (.object kOB) (3 : Int32) [(.ref x0), (.ref x1), (.ref x2)] .null) ∧ (Exa Z h A kOA)
set_option maxRecDepth 65536 in
set_option maxHeartbeats 40000000 in
theorem rm_of3_10 (l : Launch) (Z : State) (a0 : Array Value) (hw : own_HW Z a0) (ws : List Jvm.Cond) (r0 : Addr) (k0 : ClassId) (x0 : Addr) (x1 : Addr) (x2 : Addr) (h0 : Heap) (n0 : Nat) (Z0 : n0 ≤ h0.size) (V_r0 : Arv Z h0 r0 k0 (.object kOB) (3 : Int32) [(.ref x0), (.ref x1), (.ref x2)] .null) (E_r0 : Exa Z h0 r0 kOA) (I_x0 : Ins Z h0 x0 kOB true) (I_x1 : Ins Z h0 x1 kOB true) (I_x2 : Ins Z h0 x2 kOB true) :
    MetFree l (⟨"java/util/List", "of", "([Ljava/lang/Object;)Ljava/util/List;"⟩ : MethodName) (head1 (Jvm.Cond.code (⟨"java/util/List", "of", "([Ljava/lang/Object;)Ljava/util/List;"⟩ : MethodName) jdk_40_method_47_code 2 (some (.object "java/util/List")) :: ws) ({ frames := 6, cells := 2, slots := 5, locals := 77 } : Room)) (fun a U => a = #[(.ref r0)] ∧ Z.Warmed39 U.vm ∧ U.heap = h0) (fun _ _ _ _ _ => True) (fun _ U o U' => ∃ v L, o = .returned v ∧ Q_of3_10 Z r0 k0 x0 x1 x2 h0 n0 v U'.heap L ∧ FrameEnd U o U' L ({ frames := 6, cells := 2, slots := 5, locals := 77 } : Room).cells ({ frames := 6, cells := 2, slots := 5, locals := 77 } : Room).slots) := by
  refine MetFree.of_bodySF (plainFor_of_name pn14) hisR ?_
  intro p e s m args below meth c s₁ Bd hml0 hP hK
  obtain ⟨rfl, hZ, hh⟩ := hP
  have hx := Bd.exec
  have hby := Bd.bytes
  have hml : c.maxLocals = 2 := hml0
  have hown : s.vm.findClass "java/util/List" = some m.cls := findClass_of_methodNamed Bd.named
  have hnm := (name_of_methodNamed Bd.named Bd.method).1
  have X0 : Stand p l e ({ frames := 6, cells := 2, slots := 5, locals := 77 } : Room) s m #[(.ref r0)] below meth c s₁ [] 0 0 := Stand.of_body Bd
  have e0 : s₁.heap = h0 := by rw [← hh, Bd.state]; rfl
  have N0 := Fr.nil n0
  have pre0 : ∀ t, Steps p.tables e below (s₁.setTop (mkF m 0 #[oR r0, oU] [])) t → Steps p.tables e below (s₁.setTop (entryFrame m #[(.ref r0)] 2)) t := fun t k => castTop (ef_of3_10 m r0) k
  obtain ⟨cl101, Ar101, qk101, Sz101, Nz101, Hh101, Gg101⟩ := id V_r0
  obtain ⟨_, T102, L102, X102, hQ102, st102⟩ := own_cS X0 hx hZ hw hown (W := 0) (rm_lf3_10 l Z a0 hw [] r0 k0 x0 x1 x2 h0 n0 Z0 V_r0 E_r0 I_x0 I_x1 I_x2) (by decide) (by decide) (by decide) 265 rfl 266 rfl 219 rfl 267 rfl e0 (g := (mkF m 60 #[oR r0, oU] [(.ref r0)])) rfl (by rw [hml]; rfl) (argsL := [(.ref r0)]) (rest := []) (lenOf pd14 rfl) rfl (Nat.le_of_eq rfl) (hb hby d38_60) rfl (cN := 2) rfl (by decide) (sN := 5) rfl (by decide)
  obtain ⟨LL_102, A_102, kA_102, rfl, Nq102, P102_0, P102_1, P102_2, P102_3, P102_4, P102_5, P102_6, P102_7⟩ := hQ102
  have N102 := Fr.app N0 Nq102
  have g_LL_102 : n0 ≤ LL_102 := Nat.le_trans Z0 P102_1
  have sz_LL_102 : h0.size ≤ LL_102 := Nat.le_trans (Keep.refl h0 []).1 P102_1
  have g_A_102 : n0 ≤ A_102 := Nat.le_trans Z0 P102_2
  have sz_A_102 : h0.size ≤ A_102 := Nat.le_trans (Keep.refl h0 []).1 P102_2
  have ZZ103 : n0 ≤ T102.heap.size := Nat.le_trans Z0 P102_0.1
  have KK104 : Keep h0 T102.heap [] := Keep.trans (Keep.refl h0 []) P102_0 all0
  obtain ⟨fs, hr, hrun, hended, hW, hsame⟩ := X102.leave (v := some (.ref LL_102)) (fun h => by rw [Bd.returns] at h; cases h)
  refine ⟨_, _, pre0 _ ?_, hrun, hended, _, _, rfl, ?_, ⟨_, rfl⟩, hW, hsame.mono (by decide) (by decide)⟩
  · show own_S p e below s₁ m 0 #[oR r0, oU] [] _
    refine XS.aloadN X0.here hx rfl (hb hby d38_0) rfl rfl ?_
    show own_S p e below s₁ m 1 _ [(.ref r0)] _
    refine X0.arraylength hx (by rw [e0]; exact Ar101.1) (State.isArrayOf_alike hZ.alike Ar101.2.1) (g := (mkF m 1 #[oR r0, oU] [(.ref r0)])) rfl rfl (hb hby d38_1) _ ?_
    rw [len_of Sz101 Nz101]
    show own_S p e below s₁ m 2 _ [(.int 3)] _
    refine XS.tswOut X0.here hx rfl (pc0 := 2) (pc' := 59) rfl (hb hby d38_2) rfl (by decide) (by decide) (by decide) ?_
    show own_S p e below s₁ m 59 _ [] _
    refine XS.aloadN X0.here hx rfl (hb hby d38_59) rfl rfl ?_
    show own_S p e below s₁ m 60 _ [(.ref r0)] _
    refine st102.trans ?_
    show own_S p e below T102 m 63 _ [(.ref LL_102)] _
    exact retOut X102 hx Bd.returns rfl (Or.inr (Or.inr (Or.inr (Or.inr ⟨rfl, rfl, rfl⟩)))) (hb hby d38_63) hr
  · show Q_of3_10 Z r0 k0 x0 x1 x2 h0 n0 _ T102.heap _
    exact ⟨LL_102, A_102, kA_102, rfl, N102, KK104, sz_LL_102, sz_A_102, P102_3, P102_4, P102_5, P102_6, P102_7⟩
theorem pd15 : parseMethodDescriptor "()Z" = some ⟨[], some .boolean⟩ := by decide +kernel
theorem d33_0 : decode k33 0 = .ok (.aload_n 0, 1) := by decide +kernel
theorem d33_1 : decode k33 1 = .ok (.instanceof 10, 3) := by decide +kernel
theorem d33_4 : decode k33 4 = .ok (.ifCond .ne 22, 3) := by decide +kernel
theorem d33_7 : decode k33 7 = .ok (.aload_n 0, 1) := by decide +kernel
theorem d33_8 : decode k33 8 = .ok (.instanceof 12, 3) := by decide +kernel
theorem d33_11 : decode k33 11 = .ok (.ifCond .eq 20, 3) := by decide +kernel
theorem d33_31 : decode k33 31 = .ok (.aload_n 0, 1) := by decide +kernel
theorem d33_32 : decode k33 32 = .ok (.invokeinterface 20 1, 5) := by decide +kernel
theorem d33_37 : decode k33 37 = .ok (.ifCond .eq 7, 3) := by decide +kernel
theorem d33_44 : decode k33 44 = .ok (.aload_n 0, 1) := by decide +kernel
theorem d33_45 : decode k33 45 = .ok (.invokeinterface 30 1, 5) := by decide +kernel
theorem d33_50 : decode k33 50 = .ok (.invokestatic 34, 3) := by decide +kernel
theorem d33_53 : decode k33 53 = .ok (.areturn, 1) := by decide +kernel
theorem ef_lc3_10 (m : MethodId) (r0 : Addr) : entryFrame m #[(.ref r0)] 2 = mkF m 0 #[oR r0, oU] [] := by first | (simp [entryFrame, mkF, argsToLocals, Value.category]; done) | rfl
def Q_lc3_10 (Z : State) (r0 : Addr) (el : Addr) (kel : ClassId) (x0 : Addr) (x1 : Addr) (x2 : Addr) (mr : Addr) (h0 : Heap) (n0 : Nat) (v : Option Value) (h : Heap) (L : List Loc) : Prop := ∃ LL : Addr, ∃ A : Addr, ∃ kA : ClassId, v = some (.ref LL) ∧ Fr n0 L ∧ (Keep h0 h []) ∧ (h0.size ≤ LL) ∧ (h0.size ≤ A) ∧ (Exa Z h LL kLN) ∧ (Fld Z h LL kLN "elements" kOA (.ref A)) ∧ (Fld Z h LL kLN "allowNulls" "Z" (.int 0)) ∧ (Arv Z h A kA (.object kOB) (3 : Int32) [(.ref x0), (.ref x1), (.ref x2)] .null) ∧ (Exa Z h A kOA)
set_option maxRecDepth 65536 in
set_option maxHeartbeats 40000000 in
theorem rm_lc3_10 (l : Launch) (Z : State) (a0 : Array Value) (hw : own_HW Z a0) (ws : List Jvm.Cond) (r0 : Addr) (el : Addr) (kel : ClassId) (x0 : Addr) (x1 : Addr) (x2 : Addr) (mr : Addr) (h0 : Heap) (n0 : Nat) (Z0 : n0 ≤ h0.size) (E_r0 : Exa Z h0 r0 kAL) (F_elementData_r0 : Fld Z h0 r0 kAL "elementData" kOA (.ref el)) (F_size_r0 : Fld Z h0 r0 kAL "size" "I" (.int 3)) (V_el : Arv Z h0 el kel (.object kOB) (10 : Int32) [(.ref x0), (.ref x1), (.ref x2), .null] .null) (E_el : Exa Z h0 el kOA) (I_x0 : Ins Z h0 x0 kOB true) (I_x1 : Ins Z h0 x1 kOB true) (I_x2 : Ins Z h0 x2 kOB true) (M_mr : own_Mi Z kOA mr) :
    MetFree l (⟨"java/util/ImmutableCollections", "listCopy", "(Ljava/util/Collection;)Ljava/util/List;"⟩ : MethodName) (head1 (Jvm.Cond.code (⟨"java/util/ImmutableCollections", "listCopy", "(Ljava/util/Collection;)Ljava/util/List;"⟩ : MethodName) jdk_56_method_3_code 2 (some (.object "java/util/List")) :: ws) ({ frames := 7, cells := 3, slots := 8, locals := 90 } : Room)) (fun a U => a = #[(.ref r0)] ∧ Z.Warmed39 U.vm ∧ U.heap = h0) (fun _ _ _ _ _ => True) (fun _ U o U' => ∃ v L, o = .returned v ∧ Q_lc3_10 Z r0 el kel x0 x1 x2 mr h0 n0 v U'.heap L ∧ FrameEnd U o U' L ({ frames := 7, cells := 3, slots := 8, locals := 90 } : Room).cells ({ frames := 7, cells := 3, slots := 8, locals := 90 } : Room).slots) := by
  refine MetFree.of_bodySF (plainFor_of_name pn13) hisR ?_
  intro p e s m args below meth c s₁ Bd hml0 hP hK
  obtain ⟨rfl, hZ, hh⟩ := hP
  have hx := Bd.exec
  have hby := Bd.bytes
  have hml : c.maxLocals = 2 := hml0
  have hown : s.vm.findClass "java/util/ImmutableCollections" = some m.cls := findClass_of_methodNamed Bd.named
  have hnm := (name_of_methodNamed Bd.named Bd.method).1
  have X0 : Stand p l e ({ frames := 7, cells := 3, slots := 8, locals := 90 } : Room) s m #[(.ref r0)] below meth c s₁ [] 0 0 := Stand.of_body Bd
  have e0 : s₁.heap = h0 := by rw [← hh, Bd.state]; rfl
  have N0 := Fr.nil n0
  have pre0 : ∀ t, Steps p.tables e below (s₁.setTop (mkF m 0 #[oR r0, oU] [])) t → Steps p.tables e below (s₁.setTop (entryFrame m #[(.ref r0)] 2)) t := fun t k => castTop (ef_lc3_10 m r0) k
  obtain ⟨T101, X101, e101, st101⟩ := instNo X0 hx hZ hown (own_w hw 221 rfl) e0 E_r0 (own_no12 hw) (g := (mkF m 1 #[oR r0, oU] [(.ref r0)])) rfl rfl (hb hby d33_1)
  obtain ⟨T102, X102, e102, st102⟩ := instNo X101 hx hZ hown (own_w hw 226 rfl) e101 E_r0 (own_noN hw) (g := (mkF m 8 #[oR r0, oU] [(.ref r0)])) rfl rfl (hb hby d33_8)
  obtain ⟨_, T103, L103, X103, hQ103, st103⟩ := own_cI X102 hx hZ hw hown (b := r0) (W := 0) (rmm17 l Z a0 hw [] r0 (3 : Int32) h0 n0 Z0 F_size_r0 (by decide)) (by decide) (by decide) (by decide) 227 rfl 228 rfl 229 rfl 230 rfl 114 rfl 115 rfl 116 rfl 231 rfl 117 rfl 6 rfl e102 E_r0 (g := (mkF m 32 #[oR r0, oU] [(.ref r0)])) rfl (by rw [hml]; rfl) (argsL := []) (rest := []) (lenOf pd15 rfl) rfl (Nat.le_of_eq rfl) (hb hby d33_32) rfl (cN := 0) rfl (by decide) (sN := 0) rfl (by decide)
  obtain ⟨rfl, Nq103, P103_0⟩ := hQ103
  have N103 := Fr.app N0 Nq103
  obtain ⟨_, T104, L104, X104, hQ104, st104⟩ := own_cI X103 hx hZ hw hown (b := r0) (W := 0) (rm_ta3_10 l Z a0 hw [] r0 el kel x0 x1 x2 mr h0 n0 Z0 E_r0 F_elementData_r0 F_size_r0 V_el E_el I_x0 I_x1 I_x2 M_mr) (by decide) (by decide) (by decide) 232 rfl 233 rfl 234 rfl 235 rfl 236 rfl 237 rfl 238 rfl 231 rfl 239 rfl 6 rfl P103_0 E_r0 (g := (mkF m 45 #[oR r0, oU] [(.ref r0)])) rfl (by rw [hml]; rfl) (argsL := []) (rest := []) (lenOf pd4 rfl) rfl (Nat.le_of_eq rfl) (hb hby d33_45) rfl (cN := 1) rfl (by decide) (sN := 3) rfl (by decide)
  obtain ⟨na_104, kna_104, rfl, Nq104, P104_0, P104_1, P104_2, P104_3⟩ := hQ104
  have N104 := Fr.app N103 Nq104
  have g_na_104 : n0 ≤ na_104 := Nat.le_trans Z0 P104_1
  have sz_na_104 : h0.size ≤ na_104 := Nat.le_trans (Keep.refl h0 []).1 P104_1
  have ZZ105 : n0 ≤ T104.heap.size := Nat.le_trans Z0 P104_0.1
  have KK106 : Keep h0 T104.heap [] := Keep.trans (Keep.refl h0 []) P104_0 all0
  have Fc107 := (own_insKeep I_x0 P104_0)
  have Fc108 := (own_insKeep I_x1 P104_0)
  have Fc109 := (own_insKeep I_x2 P104_0)
  obtain ⟨_, T110, L110, X110, hQ110, st110⟩ := own_cS X104 hx hZ hw hown (W := 0) (rm_of3_10 l Z a0 hw [] na_104 kna_104 x0 x1 x2 T104.heap n0 ZZ105 P104_2 P104_3 Fc107 Fc108 Fc109) (by decide) (by decide) (by decide) 262 rfl 263 rfl 215 rfl 264 rfl rfl (g := (mkF m 50 #[oR r0, oU] [(.ref na_104)])) rfl (by rw [hml]; rfl) (argsL := [(.ref na_104)]) (rest := []) (lenOf pd14 rfl) rfl (Nat.le_of_eq rfl) (hb hby d33_50) rfl (cN := 3) rfl (by decide) (sN := 8) rfl (by decide)
  obtain ⟨LL_110, A_110, kA_110, rfl, Nq110, P110_0, P110_1, P110_2, P110_3, P110_4, P110_5, P110_6, P110_7⟩ := hQ110
  have N110 := Fr.app N104 Nq110
  have g_LL_110 : n0 ≤ LL_110 := Nat.le_trans ZZ105 P110_1
  have sz_LL_110 : h0.size ≤ LL_110 := Nat.le_trans KK106.1 P110_1
  have g_A_110 : n0 ≤ A_110 := Nat.le_trans ZZ105 P110_2
  have sz_A_110 : h0.size ≤ A_110 := Nat.le_trans KK106.1 P110_2
  have ZZ111 : n0 ≤ T110.heap.size := Nat.le_trans ZZ105 P110_0.1
  have KK112 : Keep h0 T110.heap [] := Keep.trans KK106 P110_0 all0
  obtain ⟨fs, hr, hrun, hended, hW, hsame⟩ := X110.leave (v := some (.ref LL_110)) (fun h => by rw [Bd.returns] at h; cases h)
  refine ⟨_, _, pre0 _ ?_, hrun, hended, _, _, rfl, ?_, ⟨_, rfl⟩, hW, hsame.mono (by decide) (by decide)⟩
  · show own_S p e below s₁ m 0 #[oR r0, oU] [] _
    refine XS.aloadN X0.here hx rfl (hb hby d33_0) rfl rfl ?_
    show own_S p e below s₁ m 1 _ [(.ref r0)] _
    refine st101 _ ?_
    show own_S p e below T101 m 4 _ [(.int 0)] _
    refine XS.ifNo X101.here hx rfl (hb hby d33_4) rfl ((if0 _ _).trans (teq (by decide : (0 : Int32) = (0 : Int32))).2) ?_
    refine XS.aloadN X101.here hx rfl (hb hby d33_7) rfl rfl ?_
    show own_S p e below T101 m 8 _ [(.ref r0)] _
    refine st102 _ ?_
    show own_S p e below T102 m 11 _ [(.int 0)] _
    refine XS.ifYes X102.here hx rfl (pc0 := 11) (pc' := 31) rfl (hb hby d33_11) rfl ((if0 _ _).trans (teq (by decide : (0 : Int32) = (0 : Int32))).1) (by decide) (by decide) ?_
    refine XS.aloadN X102.here hx rfl (hb hby d33_31) rfl rfl ?_
    show own_S p e below T102 m 32 #[oR r0, oU] [(.ref r0)] _
    refine st103.trans ?_
    show own_S p e below T103 m 37 _ [(.int 0)] _
    refine XS.ifYes X103.here hx rfl (pc0 := 37) (pc' := 44) rfl (hb hby d33_37) rfl ((if0 _ _).trans (teq (by decide : (0 : Int32) = (0 : Int32))).1) (by decide) (by decide) ?_
    refine XS.aloadN X103.here hx rfl (hb hby d33_44) rfl rfl ?_
    show own_S p e below T103 m 45 _ [(.ref r0)] _
    refine st104.trans ?_
    show own_S p e below T104 m 50 _ [(.ref na_104)] _
    refine st110.trans ?_
    show own_S p e below T110 m 53 _ [(.ref LL_110)] _
    exact retOut X110 hx Bd.returns rfl (Or.inr (Or.inr (Or.inr (Or.inr ⟨rfl, rfl, rfl⟩)))) (hb hby d33_53) hr
  · show Q_lc3_10 Z r0 el kel x0 x1 x2 mr h0 n0 _ T110.heap _
    exact ⟨LL_110, A_110, kA_110, rfl, N110, KK112, sz_LL_110, sz_A_110, P110_3, P110_4, P110_5, P110_6, P110_7⟩
theorem pd16 : parseMethodDescriptor "(Ljava/util/Collection;)Ljava/util/List;" = some ⟨[(.object "java/util/Collection")], some (.object "java/util/List")⟩ := by decide +kernel
theorem d32_0 : decode jdk_40_method_48_code 0 = .ok (.aload_n 0, 1) := by decide +kernel
theorem d32_1 : decode jdk_40_method_48_code 1 = .ok (.invokestatic 112, 3) := by decide +kernel
theorem d32_4 : decode jdk_40_method_48_code 4 = .ok (.areturn, 1) := by decide +kernel
theorem ef_co3_10 (m : MethodId) (r0 : Addr) : entryFrame m #[(.ref r0)] 1 = mkF m 0 #[oR r0] [] := by first | (simp [entryFrame, mkF, argsToLocals, Value.category]; done) | rfl
def Q_co3_10 (Z : State) (r0 : Addr) (el : Addr) (kel : ClassId) (x0 : Addr) (x1 : Addr) (x2 : Addr) (mr : Addr) (h0 : Heap) (n0 : Nat) (v : Option Value) (h : Heap) (L : List Loc) : Prop := ∃ LL : Addr, ∃ A : Addr, ∃ kA : ClassId, v = some (.ref LL) ∧ Fr n0 L ∧ (Keep h0 h []) ∧ (h0.size ≤ LL) ∧ (h0.size ≤ A) ∧ (Exa Z h LL kLN) ∧ (Fld Z h LL kLN "elements" kOA (.ref A)) ∧ (Fld Z h LL kLN "allowNulls" "Z" (.int 0)) ∧ (Arv Z h A kA (.object kOB) (3 : Int32) [(.ref x0), (.ref x1), (.ref x2)] .null) ∧ (Exa Z h A kOA)
set_option maxRecDepth 65536 in
set_option maxHeartbeats 40000000 in
theorem rm_co3_10 (l : Launch) (Z : State) (a0 : Array Value) (hw : own_HW Z a0) (ws : List Jvm.Cond) (r0 : Addr) (el : Addr) (kel : ClassId) (x0 : Addr) (x1 : Addr) (x2 : Addr) (mr : Addr) (h0 : Heap) (n0 : Nat) (Z0 : n0 ≤ h0.size) (E_r0 : Exa Z h0 r0 kAL) (F_elementData_r0 : Fld Z h0 r0 kAL "elementData" kOA (.ref el)) (F_size_r0 : Fld Z h0 r0 kAL "size" "I" (.int 3)) (V_el : Arv Z h0 el kel (.object kOB) (10 : Int32) [(.ref x0), (.ref x1), (.ref x2), .null] .null) (E_el : Exa Z h0 el kOA) (I_x0 : Ins Z h0 x0 kOB true) (I_x1 : Ins Z h0 x1 kOB true) (I_x2 : Ins Z h0 x2 kOB true) (M_mr : own_Mi Z kOA mr) :
    MetFree l (⟨"java/util/List", "copyOf", "(Ljava/util/Collection;)Ljava/util/List;"⟩ : MethodName) (head1 (Jvm.Cond.code (⟨"java/util/List", "copyOf", "(Ljava/util/Collection;)Ljava/util/List;"⟩ : MethodName) jdk_40_method_48_code 1 (some (.object "java/util/List")) :: ws) ({ frames := 8, cells := 3, slots := 8, locals := 103 } : Room)) (fun a U => a = #[(.ref r0)] ∧ Z.Warmed39 U.vm ∧ U.heap = h0) (fun _ _ _ _ _ => True) (fun _ U o U' => ∃ v L, o = .returned v ∧ Q_co3_10 Z r0 el kel x0 x1 x2 mr h0 n0 v U'.heap L ∧ FrameEnd U o U' L ({ frames := 8, cells := 3, slots := 8, locals := 103 } : Room).cells ({ frames := 8, cells := 3, slots := 8, locals := 103 } : Room).slots) := by
  refine MetFree.of_bodySF (plainFor_of_name pn14) hisR ?_
  intro p e s m args below meth c s₁ Bd hml0 hP hK
  obtain ⟨rfl, hZ, hh⟩ := hP
  have hx := Bd.exec
  have hby := Bd.bytes
  have hml : c.maxLocals = 1 := hml0
  have hown : s.vm.findClass "java/util/List" = some m.cls := findClass_of_methodNamed Bd.named
  have hnm := (name_of_methodNamed Bd.named Bd.method).1
  have X0 : Stand p l e ({ frames := 8, cells := 3, slots := 8, locals := 103 } : Room) s m #[(.ref r0)] below meth c s₁ [] 0 0 := Stand.of_body Bd
  have e0 : s₁.heap = h0 := by rw [← hh, Bd.state]; rfl
  have N0 := Fr.nil n0
  have pre0 : ∀ t, Steps p.tables e below (s₁.setTop (mkF m 0 #[oR r0] [])) t → Steps p.tables e below (s₁.setTop (entryFrame m #[(.ref r0)] 1)) t := fun t k => castTop (ef_co3_10 m r0) k
  obtain ⟨_, T101, L101, X101, hQ101, st101⟩ := own_cS X0 hx hZ hw hown (W := 0) (rm_lc3_10 l Z a0 hw [] r0 el kel x0 x1 x2 mr h0 n0 Z0 E_r0 F_elementData_r0 F_size_r0 V_el E_el I_x0 I_x1 I_x2 M_mr) (by decide) (by decide) (by decide) 217 rfl 218 rfl 219 rfl 220 rfl e0 (g := (mkF m 1 #[oR r0] [(.ref r0)])) rfl (by rw [hml]; rfl) (argsL := [(.ref r0)]) (rest := []) (lenOf pd16 rfl) rfl (Nat.le_of_eq rfl) (hb hby d32_1) rfl (cN := 3) rfl (by decide) (sN := 8) rfl (by decide)
  obtain ⟨LL_101, A_101, kA_101, rfl, Nq101, P101_0, P101_1, P101_2, P101_3, P101_4, P101_5, P101_6, P101_7⟩ := hQ101
  have N101 := Fr.app N0 Nq101
  have g_LL_101 : n0 ≤ LL_101 := Nat.le_trans Z0 P101_1
  have sz_LL_101 : h0.size ≤ LL_101 := Nat.le_trans (Keep.refl h0 []).1 P101_1
  have g_A_101 : n0 ≤ A_101 := Nat.le_trans Z0 P101_2
  have sz_A_101 : h0.size ≤ A_101 := Nat.le_trans (Keep.refl h0 []).1 P101_2
  have ZZ102 : n0 ≤ T101.heap.size := Nat.le_trans Z0 P101_0.1
  have KK103 : Keep h0 T101.heap [] := Keep.trans (Keep.refl h0 []) P101_0 all0
  obtain ⟨fs, hr, hrun, hended, hW, hsame⟩ := X101.leave (v := some (.ref LL_101)) (fun h => by rw [Bd.returns] at h; cases h)
  refine ⟨_, _, pre0 _ ?_, hrun, hended, _, _, rfl, ?_, ⟨_, rfl⟩, hW, hsame.mono (by decide) (by decide)⟩
  · show own_S p e below s₁ m 0 #[oR r0] [] _
    refine XS.aloadN X0.here hx rfl (hb hby d32_0) rfl rfl ?_
    show own_S p e below s₁ m 1 _ [(.ref r0)] _
    refine st101.trans ?_
    show own_S p e below T101 m 4 _ [(.ref LL_101)] _
    exact retOut X101 hx Bd.returns rfl (Or.inr (Or.inr (Or.inr (Or.inr ⟨rfl, rfl, rfl⟩)))) (hb hby d32_4) hr
  · show Q_co3_10 Z r0 el kel x0 x1 x2 mr h0 n0 _ T101.heap _
    exact ⟨LL_101, A_101, kA_101, rfl, N101, KK103, sz_LL_101, sz_A_101, P101_3, P101_4, P101_5, P101_6, P101_7⟩
theorem d37_5 : decode k37 5 = .ok (.iload_n 0, 1) := by decide +kernel
theorem d37_6 : decode k37 6 = .ok (.goto 4, 3) := by decide +kernel
theorem ef_mi2_2 (m : MethodId)  : entryFrame m #[(.int 2), (.int 2)] 2 = mkF m 0 #[oI 2, oI 2] [] := by first | (simp [entryFrame, mkF, argsToLocals, Value.category]; done) | rfl
def Q_mi2_2 (Z : State)  (h0 : Heap) (n0 : Nat) (v : Option Value) (h : Heap) (L : List Loc) : Prop := v = some (.int 2) ∧ Fr n0 L ∧ (h = h0)
set_option maxRecDepth 65536 in
set_option maxHeartbeats 40000000 in
theorem rm_mi2_2 (l : Launch) (Z : State) (a0 : Array Value) (hw : own_HW Z a0) (ws : List Jvm.Cond)  (h0 : Heap) (n0 : Nat) (Z0 : n0 ≤ h0.size)  :
    MetFree l (⟨"java/lang/Math", "min", "(II)I"⟩ : MethodName) (head1 (Jvm.Cond.code (⟨"java/lang/Math", "min", "(II)I"⟩ : MethodName) jdk_29_method_69_code 2 (some .int) :: ws) ({ frames := 0, cells := 0, slots := 0, locals := 0 } : Room)) (fun a U => a = #[(.int 2), (.int 2)] ∧ Z.Warmed39 U.vm ∧ U.heap = h0) (fun _ _ _ _ _ => True) (fun _ U o U' => ∃ v L, o = .returned v ∧ Q_mi2_2 Z  h0 n0 v U'.heap L ∧ FrameEnd U o U' L ({ frames := 0, cells := 0, slots := 0, locals := 0 } : Room).cells ({ frames := 0, cells := 0, slots := 0, locals := 0 } : Room).slots) := by
  refine MetFree.of_bodySF (Jvm.Free.JP.mathPlain rfl (by decide +kernel)) hisR ?_
  intro p e s m args below meth c s₁ Bd hml0 hP hK
  obtain ⟨rfl, hZ, hh⟩ := hP
  have hx := Bd.exec
  have hby := Bd.bytes
  have hml : c.maxLocals = 2 := hml0
  have hown : s.vm.findClass "java/lang/Math" = some m.cls := findClass_of_methodNamed Bd.named
  have hnm := (name_of_methodNamed Bd.named Bd.method).1
  have X0 : Stand p l e ({ frames := 0, cells := 0, slots := 0, locals := 0 } : Room) s m #[(.int 2), (.int 2)] below meth c s₁ [] 0 0 := Stand.of_body Bd
  have e0 : s₁.heap = h0 := by rw [← hh, Bd.state]; rfl
  have N0 := Fr.nil n0
  have pre0 : ∀ t, Steps p.tables e below (s₁.setTop (mkF m 0 #[oI 2, oI 2] [])) t → Steps p.tables e below (s₁.setTop (entryFrame m #[(.int 2), (.int 2)] 2)) t := fun t k => castTop (ef_mi2_2 m ) k
  obtain ⟨fs, hr, hrun, hended, hW, hsame⟩ := X0.leave (v := some (.int 2)) (fun h => by rw [Bd.returns] at h; cases h)
  refine ⟨_, _, pre0 _ ?_, hrun, hended, _, _, rfl, ?_, ⟨_, rfl⟩, hW, hsame.mono (by decide) (by decide)⟩
  · show own_S p e below s₁ m 0 #[oI 2, oI 2] [] _
    refine XS.iloadN X0.here hx rfl (hb hby d37_0) rfl ?_
    refine XS.iloadN X0.here hx rfl (hb hby d37_1) rfl ?_
    refine XS.icmpNo X0.here hx rfl (hb hby d37_2) rfl (flt (by decide : ¬ ((2 : Int32) < (2 : Int32)))).2.2.1 ?_
    refine XS.iloadN X0.here hx rfl (hb hby d37_5) rfl ?_
    show own_S p e below s₁ m 6 _ [(.int 2)] _
    refine XS.goto X0.here hx rfl (pc0 := 6) (pc' := 10) rfl (hb hby d37_6) (by decide) (by decide) ?_
    show own_S p e below s₁ m 10 _ [(.int 2)] _
    exact retOut X0 hx Bd.returns rfl (Or.inl ⟨rfl, Or.inl rfl, _, rfl⟩) (hb hby d37_10) hr
  · show Q_mi2_2 Z  h0 n0 _ s₁.heap _
    rw [e0]
    exact ⟨rfl, N0, rfl⟩
theorem ef_c32_2 (m : MethodId) (el : Addr) (mr : Addr) : entryFrame m #[(.ref el), (.int 2), (.ref mr)] 4 = mkF m 0 #[oR el, oI 2, oR mr, oU] [] := by first | (simp [entryFrame, mkF, argsToLocals, Value.category]; done) | rfl
def Q_c32_2 (Z : State) (el : Addr) (mr : Addr) (kel : ClassId) (x0 : Addr) (x1 : Addr) (h0 : Heap) (n0 : Nat) (v : Option Value) (h : Heap) (L : List Loc) : Prop := ∃ na : Addr, ∃ kna : ClassId, v = some (.ref na) ∧ Fr n0 L ∧ (Keep h0 h []) ∧ (h0.size ≤ na) ∧ (Arv Z h na kna (.object kOB) (2 : Int32) [(.ref x0), (.ref x1)] .null) ∧ (Exa Z h na kOA)
set_option maxRecDepth 65536 in
set_option maxHeartbeats 40000000 in
theorem rm_c32_2 (l : Launch) (Z : State) (a0 : Array Value) (hw : own_HW Z a0) (ws : List Jvm.Cond) (el : Addr) (mr : Addr) (kel : ClassId) (x0 : Addr) (x1 : Addr) (h0 : Heap) (n0 : Nat) (Z0 : n0 ≤ h0.size) (V_el : Arv Z h0 el kel (.object kOB) (2 : Int32) [(.ref x0), (.ref x1)] .null) (E_el : Exa Z h0 el kOA) (I_x0 : Ins Z h0 x0 kOB true) (I_x1 : Ins Z h0 x1 kOB true) (M_mr : own_Mi Z kOA mr) :
    MetFree l (⟨"java/util/Arrays", "copyOf", "([Ljava/lang/Object;ILjava/lang/Class;)[Ljava/lang/Object;"⟩ : MethodName) (head1 (Jvm.Cond.code (⟨"java/util/Arrays", "copyOf", "([Ljava/lang/Object;ILjava/lang/Class;)[Ljava/lang/Object;"⟩ : MethodName) jdk_65_method_120_code 4 (some (.array (.object kOB))) :: ws) ({ frames := 1, cells := 1, slots := 2, locals := 20 } : Room)) (fun a U => a = #[(.ref el), (.int 2), (.ref mr)] ∧ Z.Warmed39 U.vm ∧ U.heap = h0) (fun _ _ _ _ _ => True) (fun _ U o U' => ∃ v L, o = .returned v ∧ Q_c32_2 Z el mr kel x0 x1 h0 n0 v U'.heap L ∧ FrameEnd U o U' L ({ frames := 1, cells := 1, slots := 2, locals := 20 } : Room).cells ({ frames := 1, cells := 1, slots := 2, locals := 20 } : Room).slots) := by
  refine MetFree.of_bodySF (plainFor_of_name pn12) hisR ?_
  intro p e s m args below meth c s₁ Bd hml0 hP hK
  obtain ⟨rfl, hZ, hh⟩ := hP
  have hx := Bd.exec
  have hby := Bd.bytes
  have hml : c.maxLocals = 4 := hml0
  have hown : s.vm.findClass "java/util/Arrays" = some m.cls := findClass_of_methodNamed Bd.named
  have hnm := (name_of_methodNamed Bd.named Bd.method).1
  have X0 : Stand p l e ({ frames := 1, cells := 1, slots := 2, locals := 20 } : Room) s m #[(.ref el), (.int 2), (.ref mr)] below meth c s₁ [] 0 0 := Stand.of_body Bd
  have e0 : s₁.heap = h0 := by rw [← hh, Bd.state]; rfl
  have N0 := Fr.nil n0
  have pre0 : ∀ t, Steps p.tables e below (s₁.setTop (mkF m 0 #[oR el, oI 2, oR mr, oU] [])) t → Steps p.tables e below (s₁.setTop (entryFrame m #[(.ref el), (.int 2), (.ref mr)] 4)) t := fun t k => castTop (ef_c32_2 m el mr) k
  obtain ⟨T101, X101, e101, st101⟩ := own_ldcM X0 hx hZ hown (own_w hw 253 rfl) e0 M_mr (g := (mkF m 1 #[oR el, oI 2, oR mr, oU] [(.ref mr)])) rfl (hb hby d36_1)
  obtain ⟨T102, h102, k102, X102, e102, E102, A102, Ea102, O102, st102⟩ := newRE X101 hx hZ hown (own_w hw 254 rfl) (own_w hw 82 rfl) e101 (g := (mkF m 7 #[oR el, oI 2, oR mr, oU] [(.int 2)])) rfl (hb hby d36_7) rfl (by decide) (cap := 2) (by decide) (by decide) (by decide) (by decide) (ad := kOA) (by decide)
  obtain ⟨b102, g102⟩ : ∃ z, z = h0.size := ⟨_, rfl⟩
  rw [← g102] at A102 Ea102 st102
  have g_b102 : n0 ≤ b102 := Nat.le_trans Z0 (Nat.le_of_eq g102.symm)
  have sz_b102 : h0.size ≤ b102 := Nat.le_trans (Keep.refl h0 []).1 (Nat.le_of_eq g102.symm)
  have ZZ103 : n0 ≤ h102.size := Nat.le_trans Z0 E102.1
  have KK104 : Keep h0 h102 [] := (Keep.refl h0 []).ext E102
  have V_b102 : Arv Z h102 b102 k102 (.object kOB) (2 : Int32) [.null, .null] .null := (Arv.new A102 (by decide)).pad (pad_rep [] .null 2)
  obtain ⟨cl105, Ar105, qk105, Sz105, Nz105, Hh105, Gg105⟩ := id (V_el.ext E102)
  obtain ⟨_, T106, L106, X106, hQ106, st106⟩ := own_cS X102 hx hZ hw hown (W := 4) (rm_mi2_2 l Z a0 hw []  h102 n0 ZZ103 ) (by decide) (by decide) (by decide) 255 rfl 256 rfl 79 rfl 257 rfl e102 (g := (mkF m 32 #[oR el, oI 2, oR mr, oR b102] [(.int 2), (.int 2), (.int 0), (.ref b102), (.int 0), (.ref el)])) rfl (by rw [hml]; rfl) (argsL := [(.int 2), (.int 2)]) (rest := [(.int 0), (.ref b102), (.int 0), (.ref el)]) (lenOf pd2 rfl) rfl (Nat.le_of_eq rfl) (hb hby d36_32) rfl (cN := 1) rfl (by decide) (sN := 2) rfl (by decide)
  obtain ⟨rfl, Nq106, P106_0⟩ := hQ106
  have N106 := Fr.app N0 Nq106
  obtain ⟨cl107, Ar107, qk107, Sz107, Nz107, Hh107, Gg107⟩ := id V_b102
  obtain ⟨T108, h108, L108, X108, e108, N108, K108, A108, st108⟩ := cpA (us := [(.ref x0), (.ref x1)]) X106 hx hZ hown (own_w hw 258 rfl) (own_w hw 261 rfl) (own_w hw 259 rfl) (own_w hw 260 rfl) P106_0 (V_el.ext E102) V_b102 (Or.inr ⟨rfl, rfl, ⟨(Sto.ofV Ar107 qk107 O102 (I_x0.ext E102)), ⟨(Sto.ofV Ar107 qk107 O102 (I_x1.ext E102)), trivial⟩⟩⟩) (by decide) (by decide) (by decide) (by decide) (by decide) rfl (Nat.le_of_ble_eq_true rfl) N106 g_b102 (g := (mkF m 35 #[oR el, oI 2, oR mr, oR b102] [(.int 2), (.int 0), (.ref b102), (.int 0), (.ref el)])) rfl (by rw [hml]; rfl) rfl (hb hby d36_35) (by decide) (W := 0) (by show 2 * 0 + _ ≤ _; exact Nat.le_of_eq rfl) (by decide +kernel)
  have ZZ109 : n0 ≤ h108.size := Nat.le_trans ZZ103 K108.1
  have KK110 : Keep h0 h108 [] := Keep.trans KK104 K108 (allS (Or.inr sz_b102) all0)
  have V108 : Arv Z h108 b102 k102 (.object kOB) (2 : Int32) [(.ref x0), (.ref x1)] .null := A108
  obtain ⟨fs, hr, hrun, hended, hW, hsame⟩ := X108.leave (v := some (.ref b102)) (fun h => by rw [Bd.returns] at h; cases h)
  refine ⟨_, _, pre0 _ ?_, hrun, hended, _, _, rfl, ?_, ⟨_, rfl⟩, hW, hsame.mono (by decide) (by decide)⟩
  · show own_S p e below s₁ m 0 #[oR el, oI 2, oR mr, oU] [] _
    refine XS.aloadN X0.here hx rfl (hb hby d36_0) rfl rfl ?_
    show own_S p e below s₁ m 1 _ [(.ref mr)] _
    refine st101 _ ?_
    show own_S p e below T101 m 3 _ [(.ref mr), (.ref mr)] _
    refine Jvm.RoadKit.acmp (g := (mkF m 3 #[oR el, oI 2, oR mr, oU] [(.ref mr), (.ref mr)])) X101 hx rfl rfl rfl (pc0 := 3) (pc' := 6) (same := true) rfl (hb hby d36_3) rfl (decide_eq_true rfl) (by decide) (by decide) ?_
    show own_S p e below T101 m 6 _ [] _
    refine XS.iloadN X101.here hx rfl (hb hby d36_6) rfl ?_
    show own_S p e below T101 m 7 _ [(.int 2)] _
    refine st102 _ ?_
    show own_S p e below T102 m 10 _ [(.ref b102)] _
    refine XS.goto X102.here hx rfl (pc0 := 10) (pc' := 24) rfl (hb hby d36_10) (by decide) (by decide) ?_
    refine XS.astoreN X102.here hx rfl (hb hby d36_24) rfl rfl (l' := #[oR el, oI 2, oR mr, oR b102]) rfl ?_
    refine XS.aloadN X102.here hx rfl (hb hby d36_25) rfl rfl ?_
    refine XS.iconst X102.here hx rfl (hb hby d36_26) ?_
    show own_S p e below T102 m 27 _ [(.int 0), (.ref el)] _
    refine XS.aloadN X102.here hx rfl (hb hby d36_27) rfl rfl ?_
    refine XS.iconst X102.here hx rfl (hb hby d36_28) ?_
    refine XS.aloadN X102.here hx rfl (hb hby d36_29) rfl rfl ?_
    show own_S p e below T102 m 30 _ [(.ref el), (.int 0), (.ref b102), (.int 0), (.ref el)] _
    refine X102.arraylength hx (by rw [e102]; exact Ar105.1) (State.isArrayOf_alike hZ.alike Ar105.2.1) (g := (mkF m 30 #[oR el, oI 2, oR mr, oR b102] [(.ref el), (.int 0), (.ref b102), (.int 0), (.ref el)])) rfl rfl (hb hby d36_30) _ ?_
    rw [len_of Sz105 Nz105]
    show own_S p e below T102 m 31 _ [(.int 2), (.int 0), (.ref b102), (.int 0), (.ref el)] _
    refine XS.iloadN X102.here hx rfl (hb hby d36_31) rfl ?_
    show own_S p e below T102 m 32 #[oR el, oI 2, oR mr, oR b102] [(.int 2), (.int 2), (.int 0), (.ref b102), (.int 0), (.ref el)] _
    refine st106.trans ?_
    show own_S p e below T106 m 35 _ [(.int 2), (.int 0), (.ref b102), (.int 0), (.ref el)] _
    refine st108 _ ?_
    show own_S p e below T108 m 38 _ [] _
    refine XS.aloadN X108.here hx rfl (hb hby d36_38) rfl rfl ?_
    show own_S p e below T108 m 39 _ [(.ref b102)] _
    exact retOut X108 hx Bd.returns rfl (Or.inr (Or.inr (Or.inr (Or.inr ⟨rfl, rfl, rfl⟩)))) (hb hby d36_39) hr
  · show Q_c32_2 Z el mr kel x0 x1 h0 n0 _ T108.heap _
    rw [e108]
    exact ⟨b102, k102, rfl, N108, KK110, sz_b102, V108, (Ea102.keep K108)⟩
theorem ef_c22_2 (m : MethodId) (el : Addr) : entryFrame m #[(.ref el), (.int 2)] 2 = mkF m 0 #[oR el, oI 2] [] := by first | (simp [entryFrame, mkF, argsToLocals, Value.category]; done) | rfl
def Q_c22_2 (Z : State) (el : Addr) (kel : ClassId) (x0 : Addr) (x1 : Addr) (mr : Addr) (h0 : Heap) (n0 : Nat) (v : Option Value) (h : Heap) (L : List Loc) : Prop := ∃ na : Addr, ∃ kna : ClassId, v = some (.ref na) ∧ Fr n0 L ∧ (Keep h0 h []) ∧ (h0.size ≤ na) ∧ (Arv Z h na kna (.object kOB) (2 : Int32) [(.ref x0), (.ref x1)] .null) ∧ (Exa Z h na kOA)
set_option maxRecDepth 65536 in
set_option maxHeartbeats 40000000 in
theorem rm_c22_2 (l : Launch) (Z : State) (a0 : Array Value) (hw : own_HW Z a0) (ws : List Jvm.Cond) (el : Addr) (kel : ClassId) (x0 : Addr) (x1 : Addr) (mr : Addr) (h0 : Heap) (n0 : Nat) (Z0 : n0 ≤ h0.size) (V_el : Arv Z h0 el kel (.object kOB) (2 : Int32) [(.ref x0), (.ref x1)] .null) (E_el : Exa Z h0 el kOA) (I_x0 : Ins Z h0 x0 kOB true) (I_x1 : Ins Z h0 x1 kOB true) (M_mr : own_Mi Z kOA mr) :
    MetFree l (⟨"java/util/Arrays", "copyOf", "([Ljava/lang/Object;I)[Ljava/lang/Object;"⟩ : MethodName) (head1 (Jvm.Cond.code (⟨"java/util/Arrays", "copyOf", "([Ljava/lang/Object;I)[Ljava/lang/Object;"⟩ : MethodName) jdk_65_method_119_code 2 (some (.array (.object kOB))) :: ws) ({ frames := 2, cells := 1, slots := 2, locals := 35 } : Room)) (fun a U => a = #[(.ref el), (.int 2)] ∧ Z.Warmed39 U.vm ∧ U.heap = h0) (fun _ _ _ _ _ => True) (fun _ U o U' => ∃ v L, o = .returned v ∧ Q_c22_2 Z el kel x0 x1 mr h0 n0 v U'.heap L ∧ FrameEnd U o U' L ({ frames := 2, cells := 1, slots := 2, locals := 35 } : Room).cells ({ frames := 2, cells := 1, slots := 2, locals := 35 } : Room).slots) := by
  refine MetFree.of_bodySF (plainFor_of_name pn12) hisR ?_
  intro p e s m args below meth c s₁ Bd hml0 hP hK
  obtain ⟨rfl, hZ, hh⟩ := hP
  have hx := Bd.exec
  have hby := Bd.bytes
  have hml : c.maxLocals = 2 := hml0
  have hown : s.vm.findClass "java/util/Arrays" = some m.cls := findClass_of_methodNamed Bd.named
  have hnm := (name_of_methodNamed Bd.named Bd.method).1
  have X0 : Stand p l e ({ frames := 2, cells := 1, slots := 2, locals := 35 } : Room) s m #[(.ref el), (.int 2)] below meth c s₁ [] 0 0 := Stand.of_body Bd
  have e0 : s₁.heap = h0 := by rw [← hh, Bd.state]; rfl
  have N0 := Fr.nil n0
  have pre0 : ∀ t, Steps p.tables e below (s₁.setTop (mkF m 0 #[oR el, oI 2] [])) t → Steps p.tables e below (s₁.setTop (entryFrame m #[(.ref el), (.int 2)] 2)) t := fun t k => castTop (ef_c22_2 m el) k
  obtain ⟨T101, X101, e101, st101⟩ := own_gcls X0 hx hZ hown (own_w hw 244 rfl) (own_w hw 245 rfl) (own_w hw 225 rfl) (own_w hw 247 rfl) (own_w hw 246 rfl) (own_w hw 248 rfl) e0 E_el M_mr (g := (mkF m 3 #[oR el, oI 2] [(.ref el), (.int 2), (.ref el)])) rfl (by rw [hml]; rfl) rfl (hb hby d35_3) (by decide) (W := 2) (by show 2 * 0 + _ ≤ _; exact Nat.le_of_eq rfl) (by decide +kernel)
  obtain ⟨_, T102, L102, X102, hQ102, st102⟩ := own_cS X101 hx hZ hw hown (W := 0) (rm_c32_2 l Z a0 hw [] el mr kel x0 x1 h0 n0 Z0 V_el E_el I_x0 I_x1 M_mr) (by decide) (by decide) (by decide) 250 rfl 251 rfl 242 rfl 252 rfl e101 (g := (mkF m 6 #[oR el, oI 2] [(.ref mr), (.int 2), (.ref el)])) rfl (by rw [hml]; rfl) (argsL := [(.ref el), (.int 2), (.ref mr)]) (rest := []) (lenOf pd11 rfl) rfl (Nat.le_of_eq rfl) (hb hby d35_6) rfl (cN := 1) rfl (by decide) (sN := 2) rfl (by decide)
  obtain ⟨na_102, kna_102, rfl, Nq102, P102_0, P102_1, P102_2, P102_3⟩ := hQ102
  have N102 := Fr.app N0 Nq102
  have g_na_102 : n0 ≤ na_102 := Nat.le_trans Z0 P102_1
  have sz_na_102 : h0.size ≤ na_102 := Nat.le_trans (Keep.refl h0 []).1 P102_1
  have ZZ103 : n0 ≤ T102.heap.size := Nat.le_trans Z0 P102_0.1
  have KK104 : Keep h0 T102.heap [] := Keep.trans (Keep.refl h0 []) P102_0 all0
  obtain ⟨fs, hr, hrun, hended, hW, hsame⟩ := X102.leave (v := some (.ref na_102)) (fun h => by rw [Bd.returns] at h; cases h)
  refine ⟨_, _, pre0 _ ?_, hrun, hended, _, _, rfl, ?_, ⟨_, rfl⟩, hW, hsame.mono (by decide) (by decide)⟩
  · show own_S p e below s₁ m 0 #[oR el, oI 2] [] _
    refine XS.aloadN X0.here hx rfl (hb hby d35_0) rfl rfl ?_
    refine XS.iloadN X0.here hx rfl (hb hby d35_1) rfl ?_
    refine XS.aloadN X0.here hx rfl (hb hby d35_2) rfl rfl ?_
    show own_S p e below s₁ m 3 _ [(.ref el), (.int 2), (.ref el)] _
    refine st101 _ ?_
    show own_S p e below T101 m 6 _ [(.ref mr), (.int 2), (.ref el)] _
    refine st102.trans ?_
    show own_S p e below T102 m 9 _ [(.ref na_102)] _
    exact retOut X102 hx Bd.returns rfl (Or.inr (Or.inr (Or.inr (Or.inr ⟨rfl, rfl, rfl⟩)))) (hb hby d35_9) hr
  · show Q_c22_2 Z el kel x0 x1 mr h0 n0 _ T102.heap _
    exact ⟨na_102, kna_102, rfl, N102, KK104, sz_na_102, P102_2, P102_3⟩
theorem ef_ta2_2 (m : MethodId) (r0 : Addr) : entryFrame m #[(.ref r0)] 1 = mkF m 0 #[oR r0] [] := by first | (simp [entryFrame, mkF, argsToLocals, Value.category]; done) | rfl
def Q_ta2_2 (Z : State) (r0 : Addr) (el : Addr) (kel : ClassId) (x0 : Addr) (x1 : Addr) (mr : Addr) (h0 : Heap) (n0 : Nat) (v : Option Value) (h : Heap) (L : List Loc) : Prop := ∃ na : Addr, ∃ kna : ClassId, v = some (.ref na) ∧ Fr n0 L ∧ (Keep h0 h []) ∧ (h0.size ≤ na) ∧ (Arv Z h na kna (.object kOB) (2 : Int32) [(.ref x0), (.ref x1)] .null) ∧ (Exa Z h na kOA)
set_option maxRecDepth 65536 in
set_option maxHeartbeats 40000000 in
theorem rm_ta2_2 (l : Launch) (Z : State) (a0 : Array Value) (hw : own_HW Z a0) (ws : List Jvm.Cond) (r0 : Addr) (el : Addr) (kel : ClassId) (x0 : Addr) (x1 : Addr) (mr : Addr) (h0 : Heap) (n0 : Nat) (Z0 : n0 ≤ h0.size) (E_r0 : Exa Z h0 r0 kAL) (F_elementData_r0 : Fld Z h0 r0 kAL "elementData" kOA (.ref el)) (F_size_r0 : Fld Z h0 r0 kAL "size" "I" (.int 2)) (V_el : Arv Z h0 el kel (.object kOB) (2 : Int32) [(.ref x0), (.ref x1)] .null) (E_el : Exa Z h0 el kOA) (I_x0 : Ins Z h0 x0 kOB true) (I_x1 : Ins Z h0 x1 kOB true) (M_mr : own_Mi Z kOA mr) :
    MetFree l (⟨kAL, "toArray", "()[Ljava/lang/Object;"⟩ : MethodName) (head1 (Jvm.Cond.code (⟨kAL, "toArray", "()[Ljava/lang/Object;"⟩ : MethodName) jdk_38_method_16_code 1 (some (.array (.object kOB))) :: ws) ({ frames := 3, cells := 1, slots := 2, locals := 48 } : Room)) (fun a U => a = #[(.ref r0)] ∧ Z.Warmed39 U.vm ∧ U.heap = h0) (fun _ _ _ _ _ => True) (fun _ U o U' => ∃ v L, o = .returned v ∧ Q_ta2_2 Z r0 el kel x0 x1 mr h0 n0 v U'.heap L ∧ FrameEnd U o U' L ({ frames := 3, cells := 1, slots := 2, locals := 48 } : Room).cells ({ frames := 3, cells := 1, slots := 2, locals := 48 } : Room).slots) := by
  refine MetFree.of_bodySF (plainFor_of_name pn2) hisR ?_
  intro p e s m args below meth c s₁ Bd hml0 hP hK
  obtain ⟨rfl, hZ, hh⟩ := hP
  have hx := Bd.exec
  have hby := Bd.bytes
  have hml : c.maxLocals = 1 := hml0
  have hown : s.vm.findClass kAL = some m.cls := findClass_of_methodNamed Bd.named
  have hnm := (name_of_methodNamed Bd.named Bd.method).1
  have X0 : Stand p l e ({ frames := 3, cells := 1, slots := 2, locals := 48 } : Room) s m #[(.ref r0)] below meth c s₁ [] 0 0 := Stand.of_body Bd
  have e0 : s₁.heap = h0 := by rw [← hh, Bd.state]; rfl
  have N0 := Fr.nil n0
  have pre0 : ∀ t, Steps p.tables e below (s₁.setTop (mkF m 0 #[oR r0] [])) t → Steps p.tables e below (s₁.setTop (entryFrame m #[(.ref r0)] 1)) t := fun t k => castTop (ef_ta2_2 m r0) k
  obtain ⟨T101, X101, e101, st101⟩ := getF X0 hx hZ hown (host := "") (Or.inl (own_w hw 28 rfl)) Via.refl e0 F_elementData_r0 (g := (mkF m 1 #[oR r0] [(.ref r0)])) rfl rfl (hb hby d34_1)
  obtain ⟨T102, X102, e102, st102⟩ := getF X101 hx hZ hown (host := "") (Or.inl (own_w hw 60 rfl)) Via.refl e101 F_size_r0 (g := (mkF m 5 #[oR r0] [(.ref r0), (.ref el)])) rfl rfl (hb hby d34_5)
  obtain ⟨_, T103, L103, X103, hQ103, st103⟩ := own_cS X102 hx hZ hw hown (W := 0) (rm_c22_2 l Z a0 hw [] el kel x0 x1 mr h0 n0 Z0 V_el E_el I_x0 I_x1 M_mr) (by decide) (by decide) (by decide) 240 rfl 241 rfl 242 rfl 243 rfl e102 (g := (mkF m 8 #[oR r0] [(.int 2), (.ref el)])) rfl (by rw [hml]; rfl) (argsL := [(.ref el), (.int 2)]) (rest := []) (lenOf pd12 rfl) rfl (Nat.le_of_eq rfl) (hb hby d34_8) rfl (cN := 1) rfl (by decide) (sN := 2) rfl (by decide)
  obtain ⟨na_103, kna_103, rfl, Nq103, P103_0, P103_1, P103_2, P103_3⟩ := hQ103
  have N103 := Fr.app N0 Nq103
  have g_na_103 : n0 ≤ na_103 := Nat.le_trans Z0 P103_1
  have sz_na_103 : h0.size ≤ na_103 := Nat.le_trans (Keep.refl h0 []).1 P103_1
  have ZZ104 : n0 ≤ T103.heap.size := Nat.le_trans Z0 P103_0.1
  have KK105 : Keep h0 T103.heap [] := Keep.trans (Keep.refl h0 []) P103_0 all0
  obtain ⟨fs, hr, hrun, hended, hW, hsame⟩ := X103.leave (v := some (.ref na_103)) (fun h => by rw [Bd.returns] at h; cases h)
  refine ⟨_, _, pre0 _ ?_, hrun, hended, _, _, rfl, ?_, ⟨_, rfl⟩, hW, hsame.mono (by decide) (by decide)⟩
  · show own_S p e below s₁ m 0 #[oR r0] [] _
    refine XS.aloadN X0.here hx rfl (hb hby d34_0) rfl rfl ?_
    show own_S p e below s₁ m 1 _ [(.ref r0)] _
    refine st101 _ ?_
    show own_S p e below T101 m 4 _ [(.ref el)] _
    refine XS.aloadN X101.here hx rfl (hb hby d34_4) rfl rfl ?_
    show own_S p e below T101 m 5 _ [(.ref r0), (.ref el)] _
    refine st102 _ ?_
    show own_S p e below T102 m 8 _ [(.int 2), (.ref el)] _
    refine st103.trans ?_
    show own_S p e below T103 m 11 _ [(.ref na_103)] _
    exact retOut X103 hx Bd.returns rfl (Or.inr (Or.inr (Or.inr (Or.inr ⟨rfl, rfl, rfl⟩)))) (hb hby d34_11) hr
  · show Q_ta2_2 Z r0 el kel x0 x1 mr h0 n0 _ T103.heap _
    exact ⟨na_103, kna_103, rfl, N103, KK105, sz_na_103, P103_2, P103_3⟩
theorem pd17 : parseMethodDescriptor "(Ljava/lang/Object;Ljava/lang/Object;)V" = some ⟨[(.object kOB), (.object kOB)], none⟩ := by decide +kernel
theorem d38_45 : decode k38 45 = .ok (.new 96, 3) := by decide +kernel
theorem d38_48 : decode k38 48 = .ok (.dup, 1) := by decide +kernel
theorem d38_49 : decode k38 49 = .ok (.aload_n 0, 1) := by decide +kernel
theorem d38_50 : decode k38 50 = .ok (.iconst 0, 1) := by decide +kernel
theorem d38_51 : decode k38 51 = .ok (.aaload, 1) := by decide +kernel
theorem d38_52 : decode k38 52 = .ok (.aload_n 0, 1) := by decide +kernel
theorem d38_53 : decode k38 53 = .ok (.iconst 1, 1) := by decide +kernel
theorem d38_54 : decode k38 54 = .ok (.aaload, 1) := by decide +kernel
theorem d38_55 : decode k38 55 = .ok (.invokespecial 100, 3) := by decide +kernel
theorem d38_58 : decode k38 58 = .ok (.areturn, 1) := by decide +kernel
theorem ef_of2_2 (m : MethodId) (r0 : Addr) : entryFrame m #[(.ref r0)] 2 = mkF m 0 #[oR r0, oU] [] := by first | (simp [entryFrame, mkF, argsToLocals, Value.category]; done) | rfl
def Q_of2_2 (Z : State) (r0 : Addr) (k0 : ClassId) (x0 : Addr) (x1 : Addr) (h0 : Heap) (n0 : Nat) (v : Option Value) (h : Heap) (L : List Loc) : Prop := ∃ LL : Addr, v = some (.ref LL) ∧ Fr n0 L ∧ (Keep h0 h []) ∧ (h0.size ≤ LL) ∧ (Exa Z h LL kL12) ∧ (Fld Z h LL kL12 "e0" "Ljava/lang/Object;" (.ref x0)) ∧ (Fld Z h LL kL12 "e1" "Ljava/lang/Object;" (.ref x1))
set_option maxRecDepth 65536 in
set_option maxHeartbeats 40000000 in
theorem rm_of2_2 (l : Launch) (Z : State) (a0 : Array Value) (hw : own_HW Z a0) (ws : List Jvm.Cond) (r0 : Addr) (k0 : ClassId) (x0 : Addr) (x1 : Addr) (h0 : Heap) (n0 : Nat) (Z0 : n0 ≤ h0.size) (V_r0 : Arv Z h0 r0 k0 (.object kOB) (2 : Int32) [(.ref x0), (.ref x1)] .null) :
    MetFree l (⟨"java/util/List", "of", "([Ljava/lang/Object;)Ljava/util/List;"⟩ : MethodName) (head1 (Jvm.Cond.code (⟨"java/util/List", "of", "([Ljava/lang/Object;)Ljava/util/List;"⟩ : MethodName) jdk_40_method_47_code 2 (some (.object "java/util/List")) :: ws) ({ frames := 5, cells := 1, slots := 2, locals := 63 } : Room)) (fun a U => a = #[(.ref r0)] ∧ Z.Warmed39 U.vm ∧ U.heap = h0) (fun _ _ _ _ _ => True) (fun _ U o U' => ∃ v L, o = .returned v ∧ Q_of2_2 Z r0 k0 x0 x1 h0 n0 v U'.heap L ∧ FrameEnd U o U' L ({ frames := 5, cells := 1, slots := 2, locals := 63 } : Room).cells ({ frames := 5, cells := 1, slots := 2, locals := 63 } : Room).slots) := by
  refine MetFree.of_bodySF (plainFor_of_name pn14) hisR ?_
  intro p e s m args below meth c s₁ Bd hml0 hP hK
  obtain ⟨rfl, hZ, hh⟩ := hP
  have hx := Bd.exec
  have hby := Bd.bytes
  have hml : c.maxLocals = 2 := hml0
  have hown : s.vm.findClass "java/util/List" = some m.cls := findClass_of_methodNamed Bd.named
  have hnm := (name_of_methodNamed Bd.named Bd.method).1
  have X0 : Stand p l e ({ frames := 5, cells := 1, slots := 2, locals := 63 } : Room) s m #[(.ref r0)] below meth c s₁ [] 0 0 := Stand.of_body Bd
  have e0 : s₁.heap = h0 := by rw [← hh, Bd.state]; rfl
  have N0 := Fr.nil n0
  have pre0 : ∀ t, Steps p.tables e below (s₁.setTop (mkF m 0 #[oR r0, oU] [])) t → Steps p.tables e below (s₁.setTop (entryFrame m #[(.ref r0)] 2)) t := fun t k => castTop (ef_of2_2 m r0) k
  obtain ⟨cl101, Ar101, qk101, Sz101, Nz101, Hh101, Gg101⟩ := id V_r0
  obtain ⟨T102, h102, X102, e102, E102, A102, D102, -, st102⟩ := newO X0 hx hZ hown (own_w hw 298 rfl) (own_w hw 299 rfl) (own_w hw 300 rfl) e0 (g := (mkF m 45 #[oR r0, oU] [])) rfl (hb hby d38_45) (by decide) (by decide)
  obtain ⟨b102, g102⟩ : ∃ z, z = h0.size := ⟨_, rfl⟩
  rw [← g102] at A102 D102 st102
  have g_b102 : n0 ≤ b102 := Nat.le_trans Z0 (Nat.le_of_eq g102.symm)
  have sz_b102 : h0.size ≤ b102 := Nat.le_trans (Keep.refl h0 []).1 (Nat.le_of_eq g102.symm)
  have ZZ103 : n0 ≤ h102.size := Nat.le_trans Z0 E102.1
  have KK104 : Keep h0 h102 [] := (Keep.refl h0 []).ext E102
  have F_e0_b102 : Fld Z h102 b102 kL12 "e0" "Ljava/lang/Object;" .null := D102 (Or.inr (own_w hw 311 rfl)) (ty := (.object kOB)) (by decide)
  have F_e1_b102 : Fld Z h102 b102 kL12 "e1" "Ljava/lang/Object;" .null := D102 (Or.inr (own_w hw 313 rfl)) (ty := (.object kOB)) (by decide)
  obtain ⟨cl105, Ar105, qk105, Sz105, Nz105, Hh105, Gg105⟩ := id (V_r0.ext E102)
  have hin106 : ¬ ((0 : Int32) < 0 ∨ cl105.slots.size ≤ ((0 : Int32)).toNatClampNeg) := inb_of Sz105 ⟨by decide, by decide⟩
  have hat106 : cl105.slots[((0 : Int32)).toNatClampNeg]? = some (.ref x0) := Has.at Hh105 hin106 rfl
  obtain ⟨cl107, Ar107, qk107, Sz107, Nz107, Hh107, Gg107⟩ := id (V_r0.ext E102)
  have hin108 : ¬ ((1 : Int32) < 0 ∨ cl107.slots.size ≤ ((1 : Int32)).toNatClampNeg) := inb_of Sz107 ⟨by decide, by decide⟩
  have hat108 : cl107.slots[((1 : Int32)).toNatClampNeg]? = some (.ref x1) := Has.at Hh107 hin108 rfl
  obtain ⟨_, T109, L109, X109, hQ109, st109⟩ := own_cC X102 hx hZ hw hown (b := b102) (W := 1) (rmm44 l Z a0 hw [] b102 x0 x1 .null .null h102 n0 ZZ103 A102 g_b102 F_e0_b102 F_e1_b102) (by decide) (by decide) (by decide) rfl 301 rfl 302 rfl 304 rfl 300 rfl e102 (g := (mkF m 55 #[oR r0, oU] [(.ref x1), (.ref x0), (.ref b102), (.ref b102)])) rfl (by rw [hml]; rfl) (argsL := [(.ref x0), (.ref x1)]) (rest := [(.ref b102)]) (lenOf pd17 rfl) rfl (Nat.le_of_eq rfl) (hb hby d38_55) rfl (cN := 1) rfl (by decide) (sN := 2) rfl (by decide)
  obtain ⟨rfl, Nq109, P109_0, P109_1, P109_2⟩ := hQ109
  have N109 := Fr.app N0 Nq109
  have ZZ110 : n0 ≤ T109.heap.size := Nat.le_trans ZZ103 P109_0.1
  have KK111 : Keep h0 T109.heap [] := Keep.trans KK104 P109_0 (allS (Or.inr sz_b102) all0)
  obtain ⟨fs, hr, hrun, hended, hW, hsame⟩ := X109.leave (v := some (.ref b102)) (fun h => by rw [Bd.returns] at h; cases h)
  refine ⟨_, _, pre0 _ ?_, hrun, hended, _, _, rfl, ?_, ⟨_, rfl⟩, hW, hsame.mono (by decide) (by decide)⟩
  · show own_S p e below s₁ m 0 #[oR r0, oU] [] _
    refine XS.aloadN X0.here hx rfl (hb hby d38_0) rfl rfl ?_
    show own_S p e below s₁ m 1 _ [(.ref r0)] _
    refine X0.arraylength hx (by rw [e0]; exact Ar101.1) (State.isArrayOf_alike hZ.alike Ar101.2.1) (g := (mkF m 1 #[oR r0, oU] [(.ref r0)])) rfl rfl (hb hby d38_1) _ ?_
    rw [len_of Sz101 Nz101]
    show own_S p e below s₁ m 2 _ [(.int 2)] _
    refine XS.tswIn X0.here hx rfl (pc0 := 2) (pc' := 45) (o := 43) rfl (hb hby d38_2) rfl (by decide) (by decide) (by decide) (by decide) ?_
    show own_S p e below s₁ m 45 _ [] _
    refine st102 _ ?_
    show own_S p e below T102 m 48 _ [(.ref b102)] _
    refine XS.dup X102.here hx rfl (hb hby d38_48) rfl rfl ?_
    refine XS.aloadN X102.here hx rfl (hb hby d38_49) rfl rfl ?_
    refine XS.iconst X102.here hx rfl (hb hby d38_50) ?_
    show own_S p e below T102 m 51 #[oR r0, oU] [(.int 0), (.ref r0), (.ref b102), (.ref b102)] _
    refine X102.aaload hx (j := (0 : Int32)) (v := (.ref x0)) (by rw [e102]; exact Ar105.1) (State.isArrayOf_alike hZ.alike Ar105.2.1) rfl Ar105.2.2 hin106 hat106 (g := (mkF m 51 #[oR r0, oU] [(.int 0), (.ref r0), (.ref b102), (.ref b102)])) rfl rfl (hb hby d38_51) _ ?_
    show own_S p e below T102 m 52 _ [(.ref x0), (.ref b102), (.ref b102)] _
    refine XS.aloadN X102.here hx rfl (hb hby d38_52) rfl rfl ?_
    refine XS.iconst X102.here hx rfl (hb hby d38_53) ?_
    show own_S p e below T102 m 54 _ [(.int 1), (.ref r0), (.ref x0), (.ref b102), (.ref b102)] _
    refine X102.aaload hx (j := (1 : Int32)) (v := (.ref x1)) (by rw [e102]; exact Ar107.1) (State.isArrayOf_alike hZ.alike Ar107.2.1) rfl Ar107.2.2 hin108 hat108 (g := (mkF m 54 #[oR r0, oU] [(.int 1), (.ref r0), (.ref x0), (.ref b102), (.ref b102)])) rfl rfl (hb hby d38_54) _ ?_
    show own_S p e below T102 m 55 _ [(.ref x1), (.ref x0), (.ref b102), (.ref b102)] _
    refine st109.trans ?_
    show own_S p e below T109 m 58 _ [(.ref b102)] _
    exact retOut X109 hx Bd.returns rfl (Or.inr (Or.inr (Or.inr (Or.inr ⟨rfl, rfl, rfl⟩)))) (hb hby d38_58) hr
  · show Q_of2_2 Z r0 k0 x0 x1 h0 n0 _ T109.heap _
    exact ⟨b102, rfl, N109, KK111, sz_b102, (A102.keep P109_0), P109_1, P109_2⟩
theorem ef_lc2_2 (m : MethodId) (r0 : Addr) : entryFrame m #[(.ref r0)] 2 = mkF m 0 #[oR r0, oU] [] := by first | (simp [entryFrame, mkF, argsToLocals, Value.category]; done) | rfl
def Q_lc2_2 (Z : State) (r0 : Addr) (el : Addr) (kel : ClassId) (x0 : Addr) (x1 : Addr) (mr : Addr) (h0 : Heap) (n0 : Nat) (v : Option Value) (h : Heap) (L : List Loc) : Prop := ∃ LL : Addr, v = some (.ref LL) ∧ Fr n0 L ∧ (Keep h0 h []) ∧ (h0.size ≤ LL) ∧ (Exa Z h LL kL12) ∧ (Fld Z h LL kL12 "e0" "Ljava/lang/Object;" (.ref x0)) ∧ (Fld Z h LL kL12 "e1" "Ljava/lang/Object;" (.ref x1))
set_option maxRecDepth 65536 in
set_option maxHeartbeats 40000000 in
theorem rm_lc2_2 (l : Launch) (Z : State) (a0 : Array Value) (hw : own_HW Z a0) (ws : List Jvm.Cond) (r0 : Addr) (el : Addr) (kel : ClassId) (x0 : Addr) (x1 : Addr) (mr : Addr) (h0 : Heap) (n0 : Nat) (Z0 : n0 ≤ h0.size) (E_r0 : Exa Z h0 r0 kAL) (F_elementData_r0 : Fld Z h0 r0 kAL "elementData" kOA (.ref el)) (F_size_r0 : Fld Z h0 r0 kAL "size" "I" (.int 2)) (V_el : Arv Z h0 el kel (.object kOB) (2 : Int32) [(.ref x0), (.ref x1)] .null) (E_el : Exa Z h0 el kOA) (I_x0 : Ins Z h0 x0 kOB true) (I_x1 : Ins Z h0 x1 kOB true) (M_mr : own_Mi Z kOA mr) :
    MetFree l (⟨"java/util/ImmutableCollections", "listCopy", "(Ljava/util/Collection;)Ljava/util/List;"⟩ : MethodName) (head1 (Jvm.Cond.code (⟨"java/util/ImmutableCollections", "listCopy", "(Ljava/util/Collection;)Ljava/util/List;"⟩ : MethodName) jdk_56_method_3_code 2 (some (.object "java/util/List")) :: ws) ({ frames := 6, cells := 2, slots := 4, locals := 76 } : Room)) (fun a U => a = #[(.ref r0)] ∧ Z.Warmed39 U.vm ∧ U.heap = h0) (fun _ _ _ _ _ => True) (fun _ U o U' => ∃ v L, o = .returned v ∧ Q_lc2_2 Z r0 el kel x0 x1 mr h0 n0 v U'.heap L ∧ FrameEnd U o U' L ({ frames := 6, cells := 2, slots := 4, locals := 76 } : Room).cells ({ frames := 6, cells := 2, slots := 4, locals := 76 } : Room).slots) := by
  refine MetFree.of_bodySF (plainFor_of_name pn13) hisR ?_
  intro p e s m args below meth c s₁ Bd hml0 hP hK
  obtain ⟨rfl, hZ, hh⟩ := hP
  have hx := Bd.exec
  have hby := Bd.bytes
  have hml : c.maxLocals = 2 := hml0
  have hown : s.vm.findClass "java/util/ImmutableCollections" = some m.cls := findClass_of_methodNamed Bd.named
  have hnm := (name_of_methodNamed Bd.named Bd.method).1
  have X0 : Stand p l e ({ frames := 6, cells := 2, slots := 4, locals := 76 } : Room) s m #[(.ref r0)] below meth c s₁ [] 0 0 := Stand.of_body Bd
  have e0 : s₁.heap = h0 := by rw [← hh, Bd.state]; rfl
  have N0 := Fr.nil n0
  have pre0 : ∀ t, Steps p.tables e below (s₁.setTop (mkF m 0 #[oR r0, oU] [])) t → Steps p.tables e below (s₁.setTop (entryFrame m #[(.ref r0)] 2)) t := fun t k => castTop (ef_lc2_2 m r0) k
  obtain ⟨T101, X101, e101, st101⟩ := instNo X0 hx hZ hown (own_w hw 221 rfl) e0 E_r0 (own_no12 hw) (g := (mkF m 1 #[oR r0, oU] [(.ref r0)])) rfl rfl (hb hby d33_1)
  obtain ⟨T102, X102, e102, st102⟩ := instNo X101 hx hZ hown (own_w hw 226 rfl) e101 E_r0 (own_noN hw) (g := (mkF m 8 #[oR r0, oU] [(.ref r0)])) rfl rfl (hb hby d33_8)
  obtain ⟨_, T103, L103, X103, hQ103, st103⟩ := own_cI X102 hx hZ hw hown (b := r0) (W := 0) (rmm17 l Z a0 hw [] r0 (2 : Int32) h0 n0 Z0 F_size_r0 (by decide)) (by decide) (by decide) (by decide) 227 rfl 228 rfl 229 rfl 230 rfl 114 rfl 115 rfl 116 rfl 231 rfl 117 rfl 6 rfl e102 E_r0 (g := (mkF m 32 #[oR r0, oU] [(.ref r0)])) rfl (by rw [hml]; rfl) (argsL := []) (rest := []) (lenOf pd15 rfl) rfl (Nat.le_of_eq rfl) (hb hby d33_32) rfl (cN := 0) rfl (by decide) (sN := 0) rfl (by decide)
  obtain ⟨rfl, Nq103, P103_0⟩ := hQ103
  have N103 := Fr.app N0 Nq103
  obtain ⟨_, T104, L104, X104, hQ104, st104⟩ := own_cI X103 hx hZ hw hown (b := r0) (W := 0) (rm_ta2_2 l Z a0 hw [] r0 el kel x0 x1 mr h0 n0 Z0 E_r0 F_elementData_r0 F_size_r0 V_el E_el I_x0 I_x1 M_mr) (by decide) (by decide) (by decide) 232 rfl 233 rfl 234 rfl 235 rfl 236 rfl 237 rfl 238 rfl 231 rfl 239 rfl 6 rfl P103_0 E_r0 (g := (mkF m 45 #[oR r0, oU] [(.ref r0)])) rfl (by rw [hml]; rfl) (argsL := []) (rest := []) (lenOf pd4 rfl) rfl (Nat.le_of_eq rfl) (hb hby d33_45) rfl (cN := 1) rfl (by decide) (sN := 2) rfl (by decide)
  obtain ⟨na_104, kna_104, rfl, Nq104, P104_0, P104_1, P104_2, P104_3⟩ := hQ104
  have N104 := Fr.app N103 Nq104
  have g_na_104 : n0 ≤ na_104 := Nat.le_trans Z0 P104_1
  have sz_na_104 : h0.size ≤ na_104 := Nat.le_trans (Keep.refl h0 []).1 P104_1
  have ZZ105 : n0 ≤ T104.heap.size := Nat.le_trans Z0 P104_0.1
  have KK106 : Keep h0 T104.heap [] := Keep.trans (Keep.refl h0 []) P104_0 all0
  obtain ⟨_, T107, L107, X107, hQ107, st107⟩ := own_cS X104 hx hZ hw hown (W := 0) (rm_of2_2 l Z a0 hw [] na_104 kna_104 x0 x1 T104.heap n0 ZZ105 P104_2) (by decide) (by decide) (by decide) 262 rfl 263 rfl 215 rfl 264 rfl rfl (g := (mkF m 50 #[oR r0, oU] [(.ref na_104)])) rfl (by rw [hml]; rfl) (argsL := [(.ref na_104)]) (rest := []) (lenOf pd14 rfl) rfl (Nat.le_of_eq rfl) (hb hby d33_50) rfl (cN := 2) rfl (by decide) (sN := 4) rfl (by decide)
  obtain ⟨LL_107, rfl, Nq107, P107_0, P107_1, P107_2, P107_3, P107_4⟩ := hQ107
  have N107 := Fr.app N104 Nq107
  have g_LL_107 : n0 ≤ LL_107 := Nat.le_trans ZZ105 P107_1
  have sz_LL_107 : h0.size ≤ LL_107 := Nat.le_trans KK106.1 P107_1
  have ZZ108 : n0 ≤ T107.heap.size := Nat.le_trans ZZ105 P107_0.1
  have KK109 : Keep h0 T107.heap [] := Keep.trans KK106 P107_0 all0
  obtain ⟨fs, hr, hrun, hended, hW, hsame⟩ := X107.leave (v := some (.ref LL_107)) (fun h => by rw [Bd.returns] at h; cases h)
  refine ⟨_, _, pre0 _ ?_, hrun, hended, _, _, rfl, ?_, ⟨_, rfl⟩, hW, hsame.mono (by decide) (by decide)⟩
  · show own_S p e below s₁ m 0 #[oR r0, oU] [] _
    refine XS.aloadN X0.here hx rfl (hb hby d33_0) rfl rfl ?_
    show own_S p e below s₁ m 1 _ [(.ref r0)] _
    refine st101 _ ?_
    show own_S p e below T101 m 4 _ [(.int 0)] _
    refine XS.ifNo X101.here hx rfl (hb hby d33_4) rfl ((if0 _ _).trans (teq (by decide : (0 : Int32) = (0 : Int32))).2) ?_
    refine XS.aloadN X101.here hx rfl (hb hby d33_7) rfl rfl ?_
    show own_S p e below T101 m 8 _ [(.ref r0)] _
    refine st102 _ ?_
    show own_S p e below T102 m 11 _ [(.int 0)] _
    refine XS.ifYes X102.here hx rfl (pc0 := 11) (pc' := 31) rfl (hb hby d33_11) rfl ((if0 _ _).trans (teq (by decide : (0 : Int32) = (0 : Int32))).1) (by decide) (by decide) ?_
    refine XS.aloadN X102.here hx rfl (hb hby d33_31) rfl rfl ?_
    show own_S p e below T102 m 32 #[oR r0, oU] [(.ref r0)] _
    refine st103.trans ?_
    show own_S p e below T103 m 37 _ [(.int 0)] _
    refine XS.ifYes X103.here hx rfl (pc0 := 37) (pc' := 44) rfl (hb hby d33_37) rfl ((if0 _ _).trans (teq (by decide : (0 : Int32) = (0 : Int32))).1) (by decide) (by decide) ?_
    refine XS.aloadN X103.here hx rfl (hb hby d33_44) rfl rfl ?_
    show own_S p e below T103 m 45 _ [(.ref r0)] _
    refine st104.trans ?_
    show own_S p e below T104 m 50 _ [(.ref na_104)] _
    refine st107.trans ?_
    show own_S p e below T107 m 53 _ [(.ref LL_107)] _
    exact retOut X107 hx Bd.returns rfl (Or.inr (Or.inr (Or.inr (Or.inr ⟨rfl, rfl, rfl⟩)))) (hb hby d33_53) hr
  · show Q_lc2_2 Z r0 el kel x0 x1 mr h0 n0 _ T107.heap _
    exact ⟨LL_107, rfl, N107, KK109, sz_LL_107, P107_2, P107_3, P107_4⟩
theorem ef_co2_2 (m : MethodId) (r0 : Addr) : entryFrame m #[(.ref r0)] 1 = mkF m 0 #[oR r0] [] := by first | (simp [entryFrame, mkF, argsToLocals, Value.category]; done) | rfl
def Q_co2_2 (Z : State) (r0 : Addr) (el : Addr) (kel : ClassId) (x0 : Addr) (x1 : Addr) (mr : Addr) (h0 : Heap) (n0 : Nat) (v : Option Value) (h : Heap) (L : List Loc) : Prop := ∃ LL : Addr, v = some (.ref LL) ∧ Fr n0 L ∧ (Keep h0 h []) ∧ (h0.size ≤ LL) ∧ (Exa Z h LL kL12) ∧ (Fld Z h LL kL12 "e0" "Ljava/lang/Object;" (.ref x0)) ∧ (Fld Z h LL kL12 "e1" "Ljava/lang/Object;" (.ref x1))
set_option maxRecDepth 65536 in
set_option maxHeartbeats 40000000 in
theorem rm_co2_2 (l : Launch) (Z : State) (a0 : Array Value) (hw : own_HW Z a0) (ws : List Jvm.Cond) (r0 : Addr) (el : Addr) (kel : ClassId) (x0 : Addr) (x1 : Addr) (mr : Addr) (h0 : Heap) (n0 : Nat) (Z0 : n0 ≤ h0.size) (E_r0 : Exa Z h0 r0 kAL) (F_elementData_r0 : Fld Z h0 r0 kAL "elementData" kOA (.ref el)) (F_size_r0 : Fld Z h0 r0 kAL "size" "I" (.int 2)) (V_el : Arv Z h0 el kel (.object kOB) (2 : Int32) [(.ref x0), (.ref x1)] .null) (E_el : Exa Z h0 el kOA) (I_x0 : Ins Z h0 x0 kOB true) (I_x1 : Ins Z h0 x1 kOB true) (M_mr : own_Mi Z kOA mr) :
    MetFree l (⟨"java/util/List", "copyOf", "(Ljava/util/Collection;)Ljava/util/List;"⟩ : MethodName) (head1 (Jvm.Cond.code (⟨"java/util/List", "copyOf", "(Ljava/util/Collection;)Ljava/util/List;"⟩ : MethodName) jdk_40_method_48_code 1 (some (.object "java/util/List")) :: ws) ({ frames := 7, cells := 2, slots := 4, locals := 89 } : Room)) (fun a U => a = #[(.ref r0)] ∧ Z.Warmed39 U.vm ∧ U.heap = h0) (fun _ _ _ _ _ => True) (fun _ U o U' => ∃ v L, o = .returned v ∧ Q_co2_2 Z r0 el kel x0 x1 mr h0 n0 v U'.heap L ∧ FrameEnd U o U' L ({ frames := 7, cells := 2, slots := 4, locals := 89 } : Room).cells ({ frames := 7, cells := 2, slots := 4, locals := 89 } : Room).slots) := by
  refine MetFree.of_bodySF (plainFor_of_name pn14) hisR ?_
  intro p e s m args below meth c s₁ Bd hml0 hP hK
  obtain ⟨rfl, hZ, hh⟩ := hP
  have hx := Bd.exec
  have hby := Bd.bytes
  have hml : c.maxLocals = 1 := hml0
  have hown : s.vm.findClass "java/util/List" = some m.cls := findClass_of_methodNamed Bd.named
  have hnm := (name_of_methodNamed Bd.named Bd.method).1
  have X0 : Stand p l e ({ frames := 7, cells := 2, slots := 4, locals := 89 } : Room) s m #[(.ref r0)] below meth c s₁ [] 0 0 := Stand.of_body Bd
  have e0 : s₁.heap = h0 := by rw [← hh, Bd.state]; rfl
  have N0 := Fr.nil n0
  have pre0 : ∀ t, Steps p.tables e below (s₁.setTop (mkF m 0 #[oR r0] [])) t → Steps p.tables e below (s₁.setTop (entryFrame m #[(.ref r0)] 1)) t := fun t k => castTop (ef_co2_2 m r0) k
  obtain ⟨_, T101, L101, X101, hQ101, st101⟩ := own_cS X0 hx hZ hw hown (W := 0) (rm_lc2_2 l Z a0 hw [] r0 el kel x0 x1 mr h0 n0 Z0 E_r0 F_elementData_r0 F_size_r0 V_el E_el I_x0 I_x1 M_mr) (by decide) (by decide) (by decide) 217 rfl 218 rfl 219 rfl 220 rfl e0 (g := (mkF m 1 #[oR r0] [(.ref r0)])) rfl (by rw [hml]; rfl) (argsL := [(.ref r0)]) (rest := []) (lenOf pd16 rfl) rfl (Nat.le_of_eq rfl) (hb hby d32_1) rfl (cN := 2) rfl (by decide) (sN := 4) rfl (by decide)
  obtain ⟨LL_101, rfl, Nq101, P101_0, P101_1, P101_2, P101_3, P101_4⟩ := hQ101
  have N101 := Fr.app N0 Nq101
  have g_LL_101 : n0 ≤ LL_101 := Nat.le_trans Z0 P101_1
  have sz_LL_101 : h0.size ≤ LL_101 := Nat.le_trans (Keep.refl h0 []).1 P101_1
  have ZZ102 : n0 ≤ T101.heap.size := Nat.le_trans Z0 P101_0.1
  have KK103 : Keep h0 T101.heap [] := Keep.trans (Keep.refl h0 []) P101_0 all0
  obtain ⟨fs, hr, hrun, hended, hW, hsame⟩ := X101.leave (v := some (.ref LL_101)) (fun h => by rw [Bd.returns] at h; cases h)
  refine ⟨_, _, pre0 _ ?_, hrun, hended, _, _, rfl, ?_, ⟨_, rfl⟩, hW, hsame.mono (by decide) (by decide)⟩
  · show own_S p e below s₁ m 0 #[oR r0] [] _
    refine XS.aloadN X0.here hx rfl (hb hby d32_0) rfl rfl ?_
    show own_S p e below s₁ m 1 _ [(.ref r0)] _
    refine st101.trans ?_
    show own_S p e below T101 m 4 _ [(.ref LL_101)] _
    exact retOut X101 hx Bd.returns rfl (Or.inr (Or.inr (Or.inr (Or.inr ⟨rfl, rfl, rfl⟩)))) (hb hby d32_4) hr
  · show Q_co2_2 Z r0 el kel x0 x1 mr h0 n0 _ T101.heap _
    exact ⟨LL_101, rfl, N101, KK103, sz_LL_101, P101_2, P101_3, P101_4⟩
theorem own_fi {Z : State} {hp : Heap} {a : Addr} {K n d : String} {x y : Int32} (h : x = y) (F : Fld Z hp a K n d (.int x)) : Fld Z hp a K n d (.int y) := h ▸ F
theorem d15_0 : decode jdk_30_method_1_code 0 = .ok (.aload_n 0, 1) := by decide +kernel
theorem d15_1 : decode jdk_30_method_1_code 1 = .ok (.invokespecial 1, 3) := by decide +kernel
theorem d15_4 : decode jdk_30_method_1_code 4 = .ok (.return_, 1) := by decide +kernel
theorem pn15 : plainName "java/lang/Record" = true := by first | (simp [plainName, overriddenIn]; done) | decide +kernel
theorem efm15 (m : MethodId) (r0 : Addr) : entryFrame m #[(.ref r0)] 1 = mkF m 0 #[oR r0] [] := by first | (simp [entryFrame, mkF, argsToLocals, Value.category]; done) | rfl
def Qm15 (Z : State) (r0 : Addr) (h0 : Heap) (n0 : Nat) (v : Option Value) (h : Heap) (L : List Loc) : Prop := v = none ∧ Fr n0 L ∧ (h = h0)
set_option maxRecDepth 65536 in
set_option maxHeartbeats 40000000 in
theorem rmm15 (l : Launch) (Z : State) (a0 : Array Value) (hw : own_HW Z a0) (ws : List Jvm.Cond) (r0 : Addr) (h0 : Heap) (n0 : Nat) (Z0 : n0 ≤ h0.size)  :
    MetFree l (⟨"java/lang/Record", "<init>", "()V"⟩ : MethodName) (head1 (Jvm.Cond.code (⟨"java/lang/Record", "<init>", "()V"⟩ : MethodName) jdk_30_method_1_code 1 none :: ws) ({ frames := 1, cells := 0, slots := 0, locals := 12 } : Room)) (fun a U => a = #[(.ref r0)] ∧ Z.Warmed39 U.vm ∧ U.heap = h0) (fun _ _ _ _ _ => True) (fun _ U o U' => ∃ v L, o = .returned v ∧ Qm15 Z r0 h0 n0 v U'.heap L ∧ FrameEnd U o U' L ({ frames := 1, cells := 0, slots := 0, locals := 12 } : Room).cells ({ frames := 1, cells := 0, slots := 0, locals := 12 } : Room).slots) := by
  refine MetFree.of_bodySF (plainFor_of_name pn15) hisR ?_
  intro p e s m args below meth c s₁ Bd hml0 hP hK
  obtain ⟨rfl, hZ, hh⟩ := hP
  have hx := Bd.exec
  have hby := Bd.bytes
  have hml : c.maxLocals = 1 := hml0
  have hown : s.vm.findClass "java/lang/Record" = some m.cls := findClass_of_methodNamed Bd.named
  have hnm := (name_of_methodNamed Bd.named Bd.method).1
  have X0 : Stand p l e ({ frames := 1, cells := 0, slots := 0, locals := 12 } : Room) s m #[(.ref r0)] below meth c s₁ [] 0 0 := Stand.of_body Bd
  have e0 : s₁.heap = h0 := by rw [← hh, Bd.state]; rfl
  have N0 := Fr.nil n0
  have pre0 : ∀ t, Steps p.tables e below (s₁.setTop (mkF m 0 #[oR r0] [])) t → Steps p.tables e below (s₁.setTop (entryFrame m #[(.ref r0)] 1)) t := fun t k => castTop (efm15 m r0) k
  obtain ⟨T101, X101, e101, st101⟩ := initO X0 hx hZ hown (own_w hw 104 rfl) (own_w hw 23 rfl) (own_w hw 24 rfl) e0 (g := (mkF m 1 #[oR r0] [(.ref r0)])) rfl (by rw [hml]; rfl) rfl (hb hby d15_1) (by decide) (W := 0) (by show 2 * 0 + _ ≤ _; exact Nat.le_of_eq rfl) (by decide)
  obtain ⟨fs, hr, hrun, hended, hW, hsame⟩ := X101.leave (v := none) (fun _ => rfl)
  refine ⟨_, _, pre0 _ ?_, hrun, hended, _, _, rfl, ?_, ⟨_, rfl⟩, hW, hsame.mono (by decide) (by decide)⟩
  · show own_S p e below s₁ m 0 #[oR r0] [] _
    refine XS.aloadN X0.here hx rfl (hb hby d15_0) rfl rfl ?_
    show own_S p e below s₁ m 1 _ [(.ref r0)] _
    refine st101 _ ?_
    show own_S p e below T101 m 4 _ [] _
    exact X101.returnOut hx Bd.returns (hb hby d15_4) hr
  · show Qm15 Z r0 h0 n0 _ T101.heap _
    rw [e101]
    exact ⟨rfl, N0, rfl⟩
theorem d23_0 : decode k23 0 = .ok (.aload_n 0, 1) := by decide +kernel
theorem d23_1 : decode k23 1 = .ok (.invokespecial 1, 3) := by decide +kernel
theorem d23_4 : decode k23 4 = .ok (.iload_n 1, 1) := by decide +kernel
theorem d23_5 : decode k23 5 = .ok (.ifCond .le 14, 3) := by decide +kernel
theorem d23_8 : decode k23 8 = .ok (.aload_n 0, 1) := by decide +kernel
theorem d23_9 : decode k23 9 = .ok (.iload_n 1, 1) := by decide +kernel
theorem d23_10 : decode k23 10 = .ok (.anewarray 7, 3) := by decide +kernel
theorem d23_13 : decode k23 13 = .ok (.putfield 9, 3) := by decide +kernel
theorem d23_16 : decode k23 16 = .ok (.goto 44, 3) := by decide +kernel
theorem d23_60 : decode k23 60 = .ok (.return_, 1) := by decide +kernel
theorem ef_ai2 (m : MethodId) (r0 : Addr) : entryFrame m #[(.ref r0), (.int 2)] 2 = mkF m 0 #[oR r0, oI 2] [] := by first | (simp [entryFrame, mkF, argsToLocals, Value.category]; done) | rfl
def Q_ai2 (Z : State) (r0 : Addr) (w0 : Value) (w1 : Value) (w2 : Value) (h0 : Heap) (n0 : Nat) (v : Option Value) (h : Heap) (L : List Loc) : Prop := ∃ el : Addr, ∃ kel : ClassId, v = none ∧ Fr n0 L ∧ (Keep h0 h [r0]) ∧ (h0.size ≤ el) ∧ (Fld Z h r0 kAL "elementData" kOA (.ref el)) ∧ (Fld Z h r0 kAL "size" "I" w1) ∧ (Fld Z h r0 kABL "modCount" "I" (.int 0)) ∧ (Arv Z h el kel (.object kOB) (2 : Int32) [.null, .null] .null) ∧ (Exa Z h el kOA) ∧ (Ovr Z kel kOB)
set_option maxRecDepth 65536 in
set_option maxHeartbeats 40000000 in
theorem rm_ai2 (l : Launch) (Z : State) (a0 : Array Value) (hw : own_HW Z a0) (ws : List Jvm.Cond) (r0 : Addr) (w0 : Value) (w1 : Value) (w2 : Value) (h0 : Heap) (n0 : Nat) (Z0 : n0 ≤ h0.size) (E_r0 : Exa Z h0 r0 kAL) (g_r0 : n0 ≤ r0) (F_elementData_r0 : Fld Z h0 r0 kAL "elementData" kOA w0) (F_size_r0 : Fld Z h0 r0 kAL "size" "I" w1) (F_modCount_r0 : Fld Z h0 r0 kABL "modCount" "I" w2) :
    MetFree l (⟨kAL, "<init>", "(I)V"⟩ : MethodName) (head1 (Jvm.Cond.code (⟨kAL, "<init>", "(I)V"⟩ : MethodName) jdk_38_method_1_code 2 none :: ws) ({ frames := 3, cells := 1, slots := 2, locals := 36 } : Room)) (fun a U => a = #[(.ref r0), (.int 2)] ∧ Z.Warmed39 U.vm ∧ U.heap = h0) (fun _ _ _ _ _ => True) (fun _ U o U' => ∃ v L, o = .returned v ∧ Q_ai2 Z r0 w0 w1 w2 h0 n0 v U'.heap L ∧ FrameEnd U o U' L ({ frames := 3, cells := 1, slots := 2, locals := 36 } : Room).cells ({ frames := 3, cells := 1, slots := 2, locals := 36 } : Room).slots) := by
  refine MetFree.of_bodySF (plainFor_of_name pn2) hisR ?_
  intro p e s m args below meth c s₁ Bd hml0 hP hK
  obtain ⟨rfl, hZ, hh⟩ := hP
  have hx := Bd.exec
  have hby := Bd.bytes
  have hml : c.maxLocals = 2 := hml0
  have hown : s.vm.findClass kAL = some m.cls := findClass_of_methodNamed Bd.named
  have hnm := (name_of_methodNamed Bd.named Bd.method).1
  have X0 : Stand p l e ({ frames := 3, cells := 1, slots := 2, locals := 36 } : Room) s m #[(.ref r0), (.int 2)] below meth c s₁ [] 0 0 := Stand.of_body Bd
  have e0 : s₁.heap = h0 := by rw [← hh, Bd.state]; rfl
  have N0 := Fr.nil n0
  have pre0 : ∀ t, Steps p.tables e below (s₁.setTop (mkF m 0 #[oR r0, oI 2] [])) t → Steps p.tables e below (s₁.setTop (entryFrame m #[(.ref r0), (.int 2)] 2)) t := fun t k => castTop (ef_ai2 m r0) k
  obtain ⟨_, T101, L101, X101, hQ101, st101⟩ := own_cC X0 hx hZ hw hown (b := r0) (W := 0) (rmm3 l Z a0 hw [] r0 w0 w1 w2 h0 n0 Z0 E_r0 g_r0 F_elementData_r0 F_size_r0 F_modCount_r0) (by decide) (by decide) (by decide) rfl 10 rfl 11 rfl 15 rfl 14 rfl e0 (g := (mkF m 1 #[oR r0, oI 2] [(.ref r0)])) rfl (by rw [hml]; rfl) (argsL := []) (rest := []) (lenOf pd0 rfl) rfl (Nat.le_of_eq rfl) (hb hby d23_1) rfl (cN := 0) rfl (by decide) (sN := 0) rfl (by decide)
  obtain ⟨rfl, Nq101, P101_0, P101_1, P101_2, P101_3⟩ := hQ101
  have N101 := Fr.app N0 Nq101
  have ZZ102 : n0 ≤ T101.heap.size := Nat.le_trans Z0 P101_0.1
  have KK103 : Keep h0 T101.heap [r0] := Keep.trans (Keep.refl h0 [r0]) P101_0 (allS (Or.inl (List.mem_of_getElem? (i := 0) rfl)) all0)
  obtain ⟨T104, h104, k104, X104, e104, E104, A104, Ea104, O104, st104⟩ := newRE X101 hx hZ hown (own_w hw 81 rfl) (own_w hw 82 rfl) rfl (g := (mkF m 10 #[oR r0, oI 2] [(.int 2), (.ref r0)])) rfl (hb hby d23_10) rfl (by decide) (cap := 2) (by decide) (by decide) (by decide) (by decide) (ad := kOA) (by decide)
  obtain ⟨b104, g104⟩ : ∃ z, z = T101.heap.size := ⟨_, rfl⟩
  rw [← g104] at A104 Ea104 st104
  have g_b104 : n0 ≤ b104 := Nat.le_trans ZZ102 (Nat.le_of_eq g104.symm)
  have sz_b104 : h0.size ≤ b104 := Nat.le_trans KK103.1 (Nat.le_of_eq g104.symm)
  have ZZ105 : n0 ≤ h104.size := Nat.le_trans ZZ102 E104.1
  have KK106 : Keep h0 h104 [r0] := KK103.ext E104
  have V_b104 : Arv Z h104 b104 k104 (.object kOB) (2 : Int32) [.null, .null] .null := (Arv.new A104 (by decide)).pad (pad_rep [] .null 2)
  have Fc107 := ((E_r0.keep P101_0).ext E104)
  obtain ⟨T108, h108, X108, e108, W108, st108⟩ := putF X104 hx hZ hown (host := "") (Or.inl (own_w hw 28 rfl)) Via.refl e104 (P101_1.ext E104) Fc107 (Or.inl (own_w hw 29 rfl)) (own_w hw 5 rfl) (ty := (.array (.object kOB))) (by decide) rfl rfl (g := (mkF m 13 #[oR r0, oI 2] [(.ref b104), (.ref r0)])) rfl rfl (hb hby d23_13)
  have Fw108 := (P101_1.ext E104).same W108
  have N108 := Fr.snoc X108 N101 g_r0
  have ZZ109 : n0 ≤ h108.size := Nat.le_trans ZZ105 (Nat.le_of_eq W108.size.symm)
  have KK110 : Keep h0 h108 [r0] := KK106.wr W108 (Or.inl (List.mem_of_getElem? (i := 0) rfl))
  have nq111 : b104 ≠ r0 := (ne_exa (Ea104.wr W108) (Fc107.wr W108) (by decide))
  obtain ⟨fs, hr, hrun, hended, hW, hsame⟩ := X108.leave (v := none) (fun _ => rfl)
  refine ⟨_, _, pre0 _ ?_, hrun, hended, _, _, rfl, ?_, ⟨_, rfl⟩, hW, hsame.mono (by decide) (by decide)⟩
  · show own_S p e below s₁ m 0 #[oR r0, oI 2] [] _
    refine XS.aloadN X0.here hx rfl (hb hby d23_0) rfl rfl ?_
    show own_S p e below s₁ m 1 _ [(.ref r0)] _
    refine st101.trans ?_
    show own_S p e below T101 m 4 _ [] _
    refine XS.iloadN X101.here hx rfl (hb hby d23_4) rfl ?_
    refine XS.ifNo X101.here hx rfl (hb hby d23_5) rfl ((if0 _ _).trans (tlt (by decide : (0 : Int32) < (2 : Int32))).2.2.2) ?_
    refine XS.aloadN X101.here hx rfl (hb hby d23_8) rfl rfl ?_
    refine XS.iloadN X101.here hx rfl (hb hby d23_9) rfl ?_
    show own_S p e below T101 m 10 _ [(.int 2), (.ref r0)] _
    refine st104 _ ?_
    show own_S p e below T104 m 13 #[oR r0, oI 2] [(.ref b104), (.ref r0)] _
    refine st108 _ ?_
    show own_S p e below T108 m 16 _ [] _
    refine XS.goto X108.here hx rfl (pc0 := 16) (pc' := 60) rfl (hb hby d23_16) (by decide) (by decide) ?_
    show own_S p e below T108 m 60 _ [] _
    exact X108.returnOut hx Bd.returns (hb hby d23_60) hr
  · show Q_ai2 Z r0 w0 w1 w2 h0 n0 _ T108.heap _
    rw [e108]
    exact ⟨b104, k104, rfl, N108, KK110, sz_b104, Fw108, ((P101_2.ext E104).other W108 (Or.inr (sn2 hw))), ((P101_3.ext E104).other W108 (Or.inr (Ne.symm (sn0 hw)))), (V_b104.other W108 nq111), (Ea104.wr W108), O104⟩
theorem own_str {Z : State} {a0 : Array Value} (hw : own_HW Z a0) : ∀ a ∈ Bundle.stringAtoms, a.before a0 Z = true := by
  intro a ha
  simp only [Bundle.stringAtoms, List.mem_cons, List.not_mem_nil, or_false] at ha
  rcases ha with rfl | rfl | rfl | rfl | rfl | rfl | rfl
  · exact (own_w hw 89 rfl)
  · exact (own_w hw 90 rfl)
  · exact (own_w hw 91 rfl)
  · exact (own_w hw 92 rfl)
  · exact (own_w hw 93 rfl)
  · exact (own_w hw 94 rfl)
  · exact (own_w hw 95 rfl)
theorem pd18 : parseMethodDescriptor "(Ljava/lang/Object;Ljava/lang/String;)Ljava/lang/Object;" = some ⟨[(.object kOB), (.object "java/lang/String")], some (.object kOB)⟩ := by decide +kernel
theorem pd19 : parseMethodDescriptor "()I" = some ⟨[], some .int⟩ := by decide +kernel
theorem pd20 : parseMethodDescriptor "(I)V" = some ⟨[.int], none⟩ := by decide +kernel
theorem pd21 : parseMethodDescriptor "()Ljava/util/Iterator;" = some ⟨[], some (.object "java/util/Iterator")⟩ := by decide +kernel
theorem pd22 : parseMethodDescriptor "()Ljava/lang/Object;" = some ⟨[], some (.object kOB)⟩ := by decide +kernel
theorem pd23 : parseMethodDescriptor "()D" = some ⟨[], some .double⟩ := by decide +kernel
theorem pd24 : parseMethodDescriptor "(D)Z" = some ⟨[.double], some .boolean⟩ := by decide +kernel
theorem pd25 : parseMethodDescriptor "(Ljava/lang/Object;)Z" = some ⟨[(.object kOB)], some .boolean⟩ := by decide +kernel
theorem sn11 {Z : State} {a0 : Array Value} (hw : own_HW Z a0) : Jvm.RoadKit.slotOf Z kMO "vectors" "Ljava/util/List;" ≠ Jvm.RoadKit.slotOf Z kMO "name" "Ljava/lang/String;" := slot_ne (Or.inr (own_w hw 317 rfl)) (Or.inr (own_w hw 315 rfl)) (by decide) (t := (.object "java/util/List")) (t' := (.object "java/lang/String")) (by decide) (by decide)
theorem d14_0 : decode k14 0 = .ok (.aload_n 0, 1) := by decide +kernel
theorem d14_1 : decode k14 1 = .ok (.invokespecial 1, 3) := by decide +kernel
theorem d14_4 : decode k14 4 = .ok (.aload_n 1, 1) := by decide +kernel
theorem d14_5 : decode k14 5 = .ok (.ldc 7, 2) := by decide +kernel
theorem d14_7 : decode k14 7 = .ok (.invokestatic 9, 3) := by decide +kernel
theorem d14_10 : decode k14 10 = .ok (.pop, 1) := by decide +kernel
theorem d14_11 : decode k14 11 = .ok (.aload_n 2, 1) := by decide +kernel
theorem d14_12 : decode k14 12 = .ok (.invokeinterface 15 1, 5) := by decide +kernel
theorem d14_17 : decode k14 17 = .ok (.ifCond .eq 17, 3) := by decide +kernel
theorem d14_34 : decode k14 34 = .ok (.aload_n 2, 1) := by decide +kernel
theorem d14_35 : decode k14 35 = .ok (.iconst 0, 1) := by decide +kernel
theorem d14_36 : decode k14 36 = .ok (.invokeinterface 30 2, 5) := by decide +kernel
theorem d14_41 : decode k14 41 = .ok (.checkcast 16, 3) := by decide +kernel
theorem d14_44 : decode k14 44 = .ok (.invokeinterface 34 1, 5) := by decide +kernel
theorem d14_49 : decode k14 49 = .ok (.istore_n 3, 1) := by decide +kernel
theorem d14_50 : decode k14 50 = .ok (.new 38, 3) := by decide +kernel
theorem d14_53 : decode k14 53 = .ok (.dup, 1) := by decide +kernel
theorem d14_54 : decode k14 54 = .ok (.aload_n 2, 1) := by decide +kernel
theorem d14_55 : decode k14 55 = .ok (.invokeinterface 34 1, 5) := by decide +kernel
theorem d14_60 : decode k14 60 = .ok (.invokespecial 40, 3) := by decide +kernel
theorem d14_63 : decode k14 63 = .ok (.astore 4, 2) := by decide +kernel
theorem d14_65 : decode k14 65 = .ok (.aload_n 2, 1) := by decide +kernel
theorem d14_66 : decode k14 66 = .ok (.invokeinterface 43 1, 5) := by decide +kernel
theorem d14_71 : decode k14 71 = .ok (.astore 5, 2) := by decide +kernel
theorem d14_73 : decode k14 73 = .ok (.aload 5, 2) := by decide +kernel
theorem d14_75 : decode k14 75 = .ok (.invokeinterface 47 1, 5) := by decide +kernel
theorem d14_80 : decode k14 80 = .ok (.ifCond .eq 125, 3) := by decide +kernel
theorem d14_83 : decode k14 83 = .ok (.aload 5, 2) := by decide +kernel
theorem d14_85 : decode k14 85 = .ok (.invokeinterface 52 1, 5) := by decide +kernel
theorem d14_90 : decode k14 90 = .ok (.checkcast 16, 3) := by decide +kernel
theorem d14_93 : decode k14 93 = .ok (.astore 6, 2) := by decide +kernel
theorem d14_95 : decode k14 95 = .ok (.aload 6, 2) := by decide +kernel
theorem d14_97 : decode k14 97 = .ok (.invokeinterface 34 1, 5) := by decide +kernel
theorem d14_102 : decode k14 102 = .ok (.iload_n 3, 1) := by decide +kernel
theorem d14_103 : decode k14 103 = .ok (.if_icmp .eq 25, 3) := by decide +kernel
theorem d14_128 : decode k14 128 = .ok (.aload 6, 2) := by decide +kernel
theorem d14_130 : decode k14 130 = .ok (.invokeinterface 43 1, 5) := by decide +kernel
theorem d14_135 : decode k14 135 = .ok (.astore 7, 2) := by decide +kernel
theorem d14_137 : decode k14 137 = .ok (.aload 7, 2) := by decide +kernel
theorem d14_139 : decode k14 139 = .ok (.invokeinterface 47 1, 5) := by decide +kernel
theorem d14_144 : decode k14 144 = .ok (.ifCond .eq 45, 3) := by decide +kernel
theorem d14_147 : decode k14 147 = .ok (.aload 7, 2) := by decide +kernel
theorem d14_149 : decode k14 149 = .ok (.invokeinterface 52 1, 5) := by decide +kernel
theorem d14_154 : decode k14 154 = .ok (.checkcast 59, 3) := by decide +kernel
theorem d14_157 : decode k14 157 = .ok (.invokevirtual 61, 3) := by decide +kernel
theorem d14_160 : decode k14 160 = .ok (.dstore 8, 2) := by decide +kernel
theorem d14_162 : decode k14 162 = .ok (.dload 8, 2) := by decide +kernel
theorem d14_164 : decode k14 164 = .ok (.invokestatic 65, 3) := by decide +kernel
theorem d14_167 : decode k14 167 = .ok (.ifCond .ne 19, 3) := by decide +kernel
theorem d14_186 : decode k14 186 = .ok (.goto (-49), 3) := by decide +kernel
theorem d14_189 : decode k14 189 = .ok (.aload 4, 2) := by decide +kernel
theorem d14_191 : decode k14 191 = .ok (.aload 6, 2) := by decide +kernel
theorem d14_193 : decode k14 193 = .ok (.invokestatic 72, 3) := by decide +kernel
theorem d14_196 : decode k14 196 = .ok (.invokeinterface 76 2, 5) := by decide +kernel
theorem d14_201 : decode k14 201 = .ok (.pop, 1) := by decide +kernel
theorem d14_202 : decode k14 202 = .ok (.goto (-129), 3) := by decide +kernel
theorem d14_205 : decode k14 205 = .ok (.aload 4, 2) := by decide +kernel
theorem d14_207 : decode k14 207 = .ok (.invokestatic 72, 3) := by decide +kernel
theorem d14_210 : decode k14 210 = .ok (.astore_n 2, 1) := by decide +kernel
theorem d14_211 : decode k14 211 = .ok (.aload_n 0, 1) := by decide +kernel
theorem d14_212 : decode k14 212 = .ok (.aload_n 1, 1) := by decide +kernel
theorem d14_213 : decode k14 213 = .ok (.putfield 80, 3) := by decide +kernel
theorem d14_216 : decode k14 216 = .ok (.aload_n 0, 1) := by decide +kernel
theorem d14_217 : decode k14 217 = .ok (.aload_n 2, 1) := by decide +kernel
theorem d14_218 : decode k14 218 = .ok (.putfield 85, 3) := by decide +kernel
theorem d14_221 : decode k14 221 = .ok (.return_, 1) := by decide +kernel
theorem pn16 : plainName kMO = true := by first | (simp [plainName, overriddenIn]; done) | decide +kernel
theorem efm14 (m : MethodId) (r0 : Addr) (r1 : Addr) (r2 : Addr) : entryFrame m #[(.ref r0), (.ref r1), (.ref r2)] 10 = mkF m 0 #[oR r0, oR r1, oR r2, oU, oU, oU, oU, oU, oU, oU] [] := by first | (simp [entryFrame, mkF, argsToLocals, Value.category]; done) | rfl
def Qm14 (Z : State) (r0 : Addr) (r1 : Addr) (r2 : Addr) (w0 : Value) (w1 : Value) (el : Addr) (v0 : Addr) (v1 : Addr) (el0 : Addr) (el1 : Addr) (x00 : Addr) (x01 : Addr) (x02 : Addr) (x10 : Addr) (x11 : Addr) (x12 : Addr) (kel : ClassId) (kel0 : ClassId) (kel1 : ClassId) (d00 : UInt64) (d01 : UInt64) (d02 : UInt64) (d10 : UInt64) (d11 : UInt64) (d12 : UInt64) (mr : Addr) (h0 : Heap) (n0 : Nat) (v : Option Value) (h : Heap) (L : List Loc) : Prop := ∃ LL : Addr, ∃ NN0 : Addr, ∃ NN1 : Addr, ∃ A0 : Addr, ∃ A1 : Addr, ∃ kA0 : ClassId, ∃ kA1 : ClassId, v = none ∧ Fr n0 L ∧ (Keep h0 h [r0]) ∧ (h0.size ≤ LL) ∧ (h0.size ≤ NN0) ∧ (h0.size ≤ NN1) ∧ (h0.size ≤ A0) ∧ (h0.size ≤ A1) ∧ (Fld Z h r0 kMO "name" "Ljava/lang/String;" (.ref r1)) ∧ (Fld Z h r0 kMO "vectors" "Ljava/util/List;" (.ref LL)) ∧ (Exa Z h LL kL12) ∧ (Fld Z h LL kL12 "e0" "Ljava/lang/Object;" (.ref NN0)) ∧ (Fld Z h LL kL12 "e1" "Ljava/lang/Object;" (.ref NN1)) ∧ (Exa Z h NN0 kLN) ∧ (Fld Z h NN0 kLN "elements" kOA (.ref A0)) ∧ (Fld Z h NN0 kLN "allowNulls" "Z" (.int 0)) ∧ (Arv Z h A0 kA0 (.object kOB) (3 : Int32) [(.ref x00), (.ref x01), (.ref x02)] .null) ∧ (Exa Z h A0 kOA) ∧ (Exa Z h NN1 kLN) ∧ (Fld Z h NN1 kLN "elements" kOA (.ref A1)) ∧ (Fld Z h NN1 kLN "allowNulls" "Z" (.int 0)) ∧ (Arv Z h A1 kA1 (.object kOB) (3 : Int32) [(.ref x10), (.ref x11), (.ref x12)] .null) ∧ (Exa Z h A1 kOA)
set_option maxRecDepth 65536 in
set_option maxHeartbeats 40000000 in
theorem rmm14 (l : Launch) (Z : State) (a0 : Array Value) (hw : own_HW Z a0) (ws : List Jvm.Cond) (r0 : Addr) (r1 : Addr) (r2 : Addr) (w0 : Value) (w1 : Value) (el : Addr) (v0 : Addr) (v1 : Addr) (el0 : Addr) (el1 : Addr) (x00 : Addr) (x01 : Addr) (x02 : Addr) (x10 : Addr) (x11 : Addr) (x12 : Addr) (kel : ClassId) (kel0 : ClassId) (kel1 : ClassId) (d00 : UInt64) (d01 : UInt64) (d02 : UInt64) (d10 : UInt64) (d11 : UInt64) (d12 : UInt64) (mr : Addr) (h0 : Heap) (n0 : Nat) (Z0 : n0 ≤ h0.size) (E_r0 : Exa Z h0 r0 kMO) (g_r0 : n0 ≤ r0) (F_name_r0 : Fld Z h0 r0 kMO "name" "Ljava/lang/String;" w0) (F_vectors_r0 : Fld Z h0 r0 kMO "vectors" "Ljava/util/List;" w1) (E_r2 : Exa Z h0 r2 kAL) (F_elementData_r2 : Fld Z h0 r2 kAL "elementData" kOA (.ref el)) (F_size_r2 : Fld Z h0 r2 kAL "size" "I" (.int 2)) (F_modCount_r2 : Fld Z h0 r2 kABL "modCount" "I" (.int 2)) (V_el : Arv Z h0 el kel (.object kOB) (10 : Int32) [(.ref v0), (.ref v1), .null, .null] .null) (E_el : Exa Z h0 el kOA) (E_v0 : Exa Z h0 v0 kAL) (F_elementData_v0 : Fld Z h0 v0 kAL "elementData" kOA (.ref el0)) (F_size_v0 : Fld Z h0 v0 kAL "size" "I" (.int 3)) (F_modCount_v0 : Fld Z h0 v0 kABL "modCount" "I" (.int 3)) (V_el0 : Arv Z h0 el0 kel0 (.object kOB) (10 : Int32) [(.ref x00), (.ref x01), (.ref x02), .null] .null) (E_el0 : Exa Z h0 el0 kOA) (E_v1 : Exa Z h0 v1 kAL) (F_elementData_v1 : Fld Z h0 v1 kAL "elementData" kOA (.ref el1)) (F_size_v1 : Fld Z h0 v1 kAL "size" "I" (.int 3)) (F_modCount_v1 : Fld Z h0 v1 kABL "modCount" "I" (.int 3)) (V_el1 : Arv Z h0 el1 kel1 (.object kOB) (10 : Int32) [(.ref x10), (.ref x11), (.ref x12), .null] .null) (E_el1 : Exa Z h0 el1 kOA) (E_x00 : Exa Z h0 x00 kDB) (F_value_x00 : Fld Z h0 x00 kDB "value" "D" (.double d00)) (E_x01 : Exa Z h0 x01 kDB) (F_value_x01 : Fld Z h0 x01 kDB "value" "D" (.double d01)) (E_x02 : Exa Z h0 x02 kDB) (F_value_x02 : Fld Z h0 x02 kDB "value" "D" (.double d02)) (E_x10 : Exa Z h0 x10 kDB) (F_value_x10 : Fld Z h0 x10 kDB "value" "D" (.double d10)) (E_x11 : Exa Z h0 x11 kDB) (F_value_x11 : Fld Z h0 x11 kDB "value" "D" (.double d11)) (E_x12 : Exa Z h0 x12 kDB) (F_value_x12 : Fld Z h0 x12 kDB "value" "D" (.double d12)) (hOld : Old Z n0 h0) (M_mr : own_Mi Z kOA mr) (hn_d00 : NoNaN64 d00) (hf_d00 : ¬ (0 : Int32) < (cmpValue (FP.dcmp (d00 &&& 0x7fffffffffffffff) (9218868437227405311 : UInt64)) .g)) (hn_d01 : NoNaN64 d01) (hf_d01 : ¬ (0 : Int32) < (cmpValue (FP.dcmp (d01 &&& 0x7fffffffffffffff) (9218868437227405311 : UInt64)) .g)) (hn_d02 : NoNaN64 d02) (hf_d02 : ¬ (0 : Int32) < (cmpValue (FP.dcmp (d02 &&& 0x7fffffffffffffff) (9218868437227405311 : UInt64)) .g)) (hn_d10 : NoNaN64 d10) (hf_d10 : ¬ (0 : Int32) < (cmpValue (FP.dcmp (d10 &&& 0x7fffffffffffffff) (9218868437227405311 : UInt64)) .g)) (hn_d11 : NoNaN64 d11) (hf_d11 : ¬ (0 : Int32) < (cmpValue (FP.dcmp (d11 &&& 0x7fffffffffffffff) (9218868437227405311 : UInt64)) .g)) (hn_d12 : NoNaN64 d12) (hf_d12 : ¬ (0 : Int32) < (cmpValue (FP.dcmp (d12 &&& 0x7fffffffffffffff) (9218868437227405311 : UInt64)) .g)) :
    MetFree l (⟨kMO, "<init>", "(Ljava/lang/String;Ljava/util/List;)V"⟩ : MethodName) (head1 (Jvm.Cond.code (⟨kMO, "<init>", "(Ljava/lang/String;Ljava/util/List;)V"⟩ : MethodName) prog_29_method_1_code 10 none :: ws) ({ frames := 9, cells := 15, slots := 57, locals := 116 } : Room)) (fun a U => a = #[(.ref r0), (.ref r1), (.ref r2)] ∧ Z.Warmed39 U.vm ∧ U.heap = h0) (fun _ _ _ _ _ => True) (fun _ U o U' => ∃ v L, o = .returned v ∧ Qm14 Z r0 r1 r2 w0 w1 el v0 v1 el0 el1 x00 x01 x02 x10 x11 x12 kel kel0 kel1 d00 d01 d02 d10 d11 d12 mr h0 n0 v U'.heap L ∧ ReturnedEndW U o U' L ({ frames := 9, cells := 15, slots := 57, locals := 116 } : Room).cells ({ frames := 9, cells := 15, slots := 57, locals := 116 } : Room).slots) := by
  refine MetFree.of_bodySF (plainFor_of_name pn16) hisR ?_
  intro p e s m args below meth c s₁ Bd hml0 hP hK
  obtain ⟨rfl, hZ, hh⟩ := hP
  have hx := Bd.exec
  have hby := Bd.bytes
  have hml : c.maxLocals = 10 := hml0
  have hown : s.vm.findClass kMO = some m.cls := findClass_of_methodNamed Bd.named
  have hnm := (name_of_methodNamed Bd.named Bd.method).1
  have X0 : Stand p l e ({ frames := 9, cells := 15, slots := 57, locals := 116 } : Room) (s.setVm s.vm) m #[(.ref r0), (.ref r1), (.ref r2)] below meth c s₁ [] 0 0 := Stand.of_body Bd
  have e0 : s₁.heap = h0 := by rw [← hh, Bd.state]; rfl
  have N0 := Fr.nil n0
  have pre0 : ∀ t, Steps p.tables e below (s₁.setTop (mkF m 0 #[oR r0, oR r1, oR r2, oU, oU, oU, oU, oU, oU, oU] [])) t → Steps p.tables e below (s₁.setTop (entryFrame m #[(.ref r0), (.ref r1), (.ref r2)] 10)) t := fun t k => castTop (efm14 m r0 r1 r2) k
  have hS0 := (State.WarmedH.refl s).since 0
  replace hZ : Z.Warmed39 (s.setVm s.vm).vm := hZ
  replace hown : (s.setVm s.vm).vm.findClass kMO = some m.cls := hown
  obtain ⟨_, T101, L101, X101, hQ101, st101⟩ := own_cC X0 hx hZ hw hown (b := r0) (W := 0) (rmm15 l Z a0 hw [] r0 h0 n0 Z0 ) (by decide) (by decide) (by decide) rfl 99 rfl 100 rfl 103 rfl 102 rfl e0 (g := (mkF m 1 #[oR r0, oR r1, oR r2, oU, oU, oU, oU, oU, oU, oU] [(.ref r0)])) rfl (by rw [hml]; rfl) (argsL := []) (rest := []) (lenOf pd0 rfl) rfl (Nat.le_of_eq rfl) (hb hby d14_1) rfl (cN := 0) rfl (by decide) (sN := 0) rfl (by decide)
  obtain ⟨rfl, Nq101, P101_0⟩ := hQ101
  have N101 := Fr.app N0 Nq101
  obtain ⟨b102, T102, h102, k102, X102, e102, E102, hS102, hk102, hZ102, how102, st102⟩ := ldcS (s := s) (vm0 := s.vm) X101 hx hZ hown (own_w hw 105 rfl) (own_str hw) P101_0 hS0 (Nat.zero_le _) (g := (mkF m 5 #[oR r0, oR r1, oR r2, oU, oU, oU, oU, oU, oU, oU] [(.ref r1)])) rfl (hb hby d14_5) (n := 16) (by decide) (by decide) (by decide) (by decide)
  have ZZ103 : n0 ≤ h102.size := Nat.le_trans Z0 E102.1
  have KK104 : Keep h0 h102 [r0] := (Keep.refl h0 [r0]).ext E102
  obtain ⟨_, T105, L105, X105, hQ105, st105⟩ := own_cS X102 hx hZ102 hw how102 (W := 0) (rmm16 l Z a0 hw [] r1 b102 h102 n0 ZZ103 ) (by decide) (by decide) (by decide) 106 rfl 107 rfl 108 rfl 109 rfl e102 (g := (mkF m 7 #[oR r0, oR r1, oR r2, oU, oU, oU, oU, oU, oU, oU] [(.ref b102), (.ref r1)])) rfl (by rw [hml]; rfl) (argsL := [(.ref r1), (.ref b102)]) (rest := []) (lenOf pd18 rfl) rfl (Nat.le_of_eq rfl) (hb hby d14_7) rfl (cN := 2) rfl (by decide) (sN := 20) rfl (by decide)
  obtain ⟨rfl, Nq105, P105_0⟩ := hQ105
  have N105 := Fr.app N101 Nq105
  obtain ⟨_, T106, L106, X106, hQ106, st106⟩ := own_cI X105 hx hZ102 hw how102 (b := r2) (W := 0) (rmm17 l Z a0 hw [] r2 (2 : Int32) h102 n0 ZZ103 (F_size_r2.ext E102) (by decide)) (by decide) (by decide) (by decide) 110 rfl 111 rfl 112 rfl 113 rfl 114 rfl 115 rfl 116 rfl 56 rfl 117 rfl 6 rfl P105_0 (E_r2.ext E102) (g := (mkF m 12 #[oR r0, oR r1, oR r2, oU, oU, oU, oU, oU, oU, oU] [(.ref r2)])) rfl (by rw [hml]; rfl) (argsL := []) (rest := []) (lenOf pd15 rfl) rfl (Nat.le_of_eq rfl) (hb hby d14_12) rfl (cN := 2) rfl (by decide) (sN := 20) rfl (by decide)
  obtain ⟨rfl, Nq106, P106_0⟩ := hQ106
  have N106 := Fr.app N105 Nq106
  have Fc107 := (F_elementData_r2.ext E102)
  obtain ⟨_, T108, L108, X108, hQ108, st108⟩ := own_cI X106 hx hZ102 hw how102 (b := r2) (W := 0) (rmm18 l Z a0 hw [] r2 el v0 kel (10 : Int32) [(.ref v0), (.ref v1), .null, .null] (2 : Int32) h102 n0 ZZ103 Fc107 (V_el.ext E102) (⟨by decide, by decide⟩) rfl (F_size_r2.ext E102) (by decide) (E_r2.ext E102)) (by decide) (by decide) (by decide) 118 rfl 119 rfl 120 rfl 121 rfl 122 rfl 123 rfl 124 rfl 56 rfl 125 rfl 6 rfl P106_0 (E_r2.ext E102) (g := (mkF m 36 #[oR r0, oR r1, oR r2, oU, oU, oU, oU, oU, oU, oU] [(.int 0), (.ref r2)])) rfl (by rw [hml]; rfl) (argsL := [(.int 0)]) (rest := []) (lenOf pd7 rfl) rfl (Nat.le_of_eq rfl) (hb hby d14_36) rfl (cN := 2) rfl (by decide) (sN := 20) rfl (by decide)
  obtain ⟨rfl, Nq108, P108_0⟩ := hQ108
  have N108 := Fr.app N106 Nq108
  obtain ⟨T109, X109, e109, st109⟩ := castY X108 hx hZ102 how102 (own_w hw 138 rfl) P108_0 (Ins.of_exa (E_v0.ext E102) (own_w hw 56 rfl)) (g := (mkF m 41 #[oR r0, oR r1, oR r2, oU, oU, oU, oU, oU, oU, oU] [(.ref v0)])) rfl rfl (hb hby d14_41)
  obtain ⟨_, T110, L110, X110, hQ110, st110⟩ := own_cI X109 hx hZ102 hw how102 (b := v0) (W := 0) (rmm22 l Z a0 hw [] v0 (3 : Int32) h102 n0 ZZ103 (F_size_v0.ext E102)) (by decide) (by decide) (by decide) 139 rfl 140 rfl 141 rfl 142 rfl 143 rfl 144 rfl 145 rfl 56 rfl 146 rfl 6 rfl e109 (E_v0.ext E102) (g := (mkF m 44 #[oR r0, oR r1, oR r2, oU, oU, oU, oU, oU, oU, oU] [(.ref v0)])) rfl (by rw [hml]; rfl) (argsL := []) (rest := []) (lenOf pd19 rfl) rfl (Nat.le_of_eq rfl) (hb hby d14_44) rfl (cN := 2) rfl (by decide) (sN := 20) rfl (by decide)
  obtain ⟨rfl, Nq110, P110_0⟩ := hQ110
  have N110 := Fr.app N108 Nq110
  obtain ⟨T111, h111, X111, e111, E111, A111, D111, -, st111⟩ := newO X110 hx hZ102 how102 (own_w hw 147 rfl) (own_w hw 5 rfl) (own_w hw 6 rfl) P110_0 (g := (mkF m 50 #[oR r0, oR r1, oR r2, oI 3, oU, oU, oU, oU, oU, oU] [])) rfl (hb hby d14_50) (by decide) (by decide)
  obtain ⟨b111, g111⟩ : ∃ z, z = h102.size := ⟨_, rfl⟩
  rw [← g111] at A111 D111 st111
  have g_b111 : n0 ≤ b111 := Nat.le_trans ZZ103 (Nat.le_of_eq g111.symm)
  have sz_b111 : h0.size ≤ b111 := Nat.le_trans KK104.1 (Nat.le_of_eq g111.symm)
  have SK112 := Nat.le_trans hk102 E111.1
  have ZZ113 : n0 ≤ h111.size := Nat.le_trans ZZ103 E111.1
  have KK114 : Keep h0 h111 [r0] := KK104.ext E111
  have F_modCount_b111 : Fld Z h111 b111 kABL "modCount" "I" (.int 0) := D111 (Or.inl (own_w hw 26 rfl)) (ty := .int) (by decide)
  have F_elementData_b111 : Fld Z h111 b111 kAL "elementData" kOA .null := D111 (Or.inl (own_w hw 29 rfl)) (ty := (.array (.object kOB))) (by decide)
  have F_size_b111 : Fld Z h111 b111 kAL "size" "I" (.int 0) := D111 (Or.inl (own_w hw 61 rfl)) (ty := .int) (by decide)
  have Fc115 := (E_r2.keep KK114)
  have Fc116 := ((E_r0.ext E102).ext E111)
  have nq117 : r2 ≠ r0 := (ne_exa Fc115 Fc116 (by decide))
  have Fc118 := (F_size_r2.keep KK114 (ninS nq117 nin0))
  obtain ⟨_, T119, L119, X119, hQ119, st119⟩ := own_cI X111 hx hZ102 hw how102 (b := r2) (W := 2) (rmm22 l Z a0 hw [] r2 (2 : Int32) h111 n0 ZZ113 Fc118) (by decide) (by decide) (by decide) 139 rfl 140 rfl 141 rfl 142 rfl 143 rfl 144 rfl 145 rfl 56 rfl 146 rfl 6 rfl e111 Fc115 (g := (mkF m 55 #[oR r0, oR r1, oR r2, oI 3, oU, oU, oU, oU, oU, oU] [(.ref r2), (.ref b111), (.ref b111)])) rfl (by rw [hml]; rfl) (argsL := []) (rest := [(.ref b111), (.ref b111)]) (lenOf pd19 rfl) rfl (Nat.le_of_eq rfl) (hb hby d14_55) rfl (cN := 3) rfl (by decide) (sN := 23) rfl (by decide)
  obtain ⟨rfl, Nq119, P119_0⟩ := hQ119
  have N119 := Fr.app N110 Nq119
  obtain ⟨_, T120, L120, X120, hQ120, st120⟩ := own_cC X119 hx hZ102 hw how102 (b := b111) (W := 1) (rm_ai2 l Z a0 hw [] b111 .null (.int 0) (.int 0) h111 n0 ZZ113 A111 g_b111 F_elementData_b111 F_size_b111 F_modCount_b111) (by decide) (by decide) (by decide) rfl 148 rfl 149 rfl 150 rfl 6 rfl P119_0 (g := (mkF m 60 #[oR r0, oR r1, oR r2, oI 3, oU, oU, oU, oU, oU, oU] [(.int 2), (.ref b111), (.ref b111)])) rfl (by rw [hml]; rfl) (argsL := [(.int 2)]) (rest := [(.ref b111)]) (lenOf pd20 rfl) rfl (Nat.le_of_eq rfl) (hb hby d14_60) rfl (cN := 4) rfl (by decide) (sN := 25) rfl (by decide)
  obtain ⟨el_120, kel_120, rfl, Nq120, P120_0, P120_1, P120_2, P120_3, P120_4, P120_5, P120_6, P120_7⟩ := hQ120
  have N120 := Fr.app N119 Nq120
  have g_el_120 : n0 ≤ el_120 := Nat.le_trans ZZ113 P120_1
  have sz_el_120 : h0.size ≤ el_120 := Nat.le_trans KK114.1 P120_1
  have SK121 := Nat.le_trans SK112 P120_0.1
  have ZZ122 : n0 ≤ T120.heap.size := Nat.le_trans ZZ113 P120_0.1
  have KK123 : Keep h0 T120.heap [r0] := Keep.trans KK114 P120_0 (allS (Or.inr sz_b111) all0)
  have Fc124 := (E_r2.keep KK123)
  have Fc125 := (F_modCount_r2.keep KK123 (ninS nq117 nin0))
  obtain ⟨_, T126, L126, X126, hQ126, st126⟩ := own_cI X120 hx hZ102 hw how102 (b := r2) (W := 0) (rmm24 l Z a0 hw [] r2 (2 : Int32) T120.heap n0 ZZ122 Fc124 Fc125) (by decide) (by decide) (by decide) 151 rfl 152 rfl 153 rfl 154 rfl 155 rfl 156 rfl 157 rfl 56 rfl 158 rfl 6 rfl rfl Fc124 (g := (mkF m 66 #[oR r0, oR r1, oR r2, oI 3, oR b111, oU, oU, oU, oU, oU] [(.ref r2)])) rfl (by rw [hml]; rfl) (argsL := []) (rest := []) (lenOf pd21 rfl) rfl (Nat.le_of_eq rfl) (hb hby d14_66) rfl (cN := 5) rfl (by decide) (sN := 29) rfl (by decide)
  obtain ⟨it_126, rfl, Nq126, P126_0, P126_1, P126_2, P126_3, P126_4, P126_5, P126_6⟩ := hQ126
  have N126 := Fr.app N120 Nq126
  have g_it_126 : n0 ≤ it_126 := Nat.le_trans ZZ122 P126_1
  have sz_it_126 : h0.size ≤ it_126 := Nat.le_trans KK123.1 P126_1
  have SK127 := Nat.le_trans SK121 P126_0.1
  have ZZ128 : n0 ≤ T126.heap.size := Nat.le_trans ZZ122 P126_0.1
  have KK129 : Keep h0 T126.heap [r0] := Keep.trans KK123 P126_0 all0
  have Fc130 := (F_size_r2.keep KK129 (ninS nq117 nin0))
  obtain ⟨_, T131, L131, X131, hQ131, st131⟩ := own_cI X126 hx hZ102 hw how102 (b := it_126) (W := 0) (rm_hn1 l Z a0 hw [] it_126 r2 (2 : Int32) (0 : Int32) (2 : Int32) (.int (-1)) T126.heap n0 ZZ128 P126_3 P126_4 P126_5 P126_6 Fc130 (by decide)) (by decide) (by decide) (by decide) 174 rfl 175 rfl 176 rfl 177 rfl 178 rfl 179 rfl 180 rfl 181 rfl 182 rfl 161 rfl rfl P126_2 (g := (mkF m 75 #[oR r0, oR r1, oR r2, oI 3, oR b111, oR it_126, oU, oU, oU, oU] [(.ref it_126)])) rfl (by rw [hml]; rfl) (argsL := []) (rest := []) (lenOf pd15 rfl) rfl (Nat.le_of_eq rfl) (hb hby d14_75) rfl (cN := 5) rfl (by decide) (sN := 29) rfl (by decide)
  obtain ⟨rfl, Nq131, P131_0⟩ := hQ131
  have N131 := Fr.app N126 Nq131
  have Fc132 := (E_r2.keep KK129)
  have Fc133 := (F_modCount_r2.keep KK129 (ninS nq117 nin0))
  have nq134 : r2 ≠ b111 := (Nat.ne_of_lt (Nat.lt_of_lt_of_le Fc107.lt (Nat.le_of_eq g111.symm)))
  have Fc135 := (((Fc107.ext E111).keep P120_0 (ninS nq134 nin0)).keep P126_0 nin0)
  have Fc136 := (E_el.keep KK129)
  have Fc137 := ((Fc116.keep P120_0).keep P126_0)
  have nq138 : el ≠ r0 := (ne_exa Fc136 Fc137 (by decide))
  have Fc139 := (V_el.keep KK129 (ninS nq138 nin0))
  obtain ⟨_, T140, L140, X140, hQ140, st140⟩ := own_cI X131 hx hZ102 hw how102 (b := it_126) (W := 0) (rmm27 l Z a0 hw [] it_126 r2 (2 : Int32) (0 : Int32) (2 : Int32) (.int (-1)) el v0 kel (10 : Int32) [(.ref v0), (.ref v1), .null, .null] T126.heap n0 ZZ128 P126_2 Fc132 g_it_126 P126_3 P126_4 P126_5 P126_6 Fc130 Fc133 Fc135 Fc139 Fc136 (by decide) (by decide) (⟨by decide, by decide⟩) rfl) (by decide) (by decide) (by decide) 186 rfl 187 rfl 188 rfl 189 rfl 190 rfl 191 rfl 192 rfl 181 rfl 193 rfl 161 rfl P131_0 P126_2 (g := (mkF m 85 #[oR r0, oR r1, oR r2, oI 3, oR b111, oR it_126, oU, oU, oU, oU] [(.ref it_126)])) rfl (by rw [hml]; rfl) (argsL := []) (rest := []) (lenOf pd22 rfl) rfl (Nat.le_of_eq rfl) (hb hby d14_85) rfl (cN := 5) rfl (by decide) (sN := 29) rfl (by decide)
  obtain ⟨rfl, Nq140, P140_0, P140_1, P140_2, P140_3, P140_4⟩ := hQ140
  have N140 := Fr.app N131 Nq140
  have SK141 := Nat.le_trans SK127 P140_0.1
  have ZZ142 : n0 ≤ T140.heap.size := Nat.le_trans ZZ128 P140_0.1
  have KK143 : Keep h0 T140.heap [r0] := Keep.trans KK129 P140_0 (allS (Or.inr sz_it_126) all0)
  have Fr144 : Fld Z T140.heap it_126 kITR "cursor" "I" (.int 1) := (own_fi (by decide) P140_1)
  have Fc145 := (E_v0.keep KK143)
  obtain ⟨T146, X146, e146, st146⟩ := castY X140 hx hZ102 how102 (own_w hw 138 rfl) rfl (Ins.of_exa Fc145 (own_w hw 56 rfl)) (g := (mkF m 90 #[oR r0, oR r1, oR r2, oI 3, oR b111, oR it_126, oU, oU, oU, oU] [(.ref v0)])) rfl rfl (hb hby d14_90)
  have nq147 : v0 ≠ r0 := (ne_exa Fc145 (Fc137.keep P140_0) (by decide))
  have Fc148 := (F_size_v0.keep KK143 (ninS nq147 nin0))
  obtain ⟨_, T149, L149, X149, hQ149, st149⟩ := own_cI X146 hx hZ102 hw how102 (b := v0) (W := 0) (rmm22 l Z a0 hw [] v0 (3 : Int32) T140.heap n0 ZZ142 Fc148) (by decide) (by decide) (by decide) 139 rfl 140 rfl 141 rfl 142 rfl 143 rfl 144 rfl 145 rfl 56 rfl 146 rfl 6 rfl e146 Fc145 (g := (mkF m 97 #[oR r0, oR r1, oR r2, oI 3, oR b111, oR it_126, oR v0, oU, oU, oU] [(.ref v0)])) rfl (by rw [hml]; rfl) (argsL := []) (rest := []) (lenOf pd19 rfl) rfl (Nat.le_of_eq rfl) (hb hby d14_97) rfl (cN := 5) rfl (by decide) (sN := 29) rfl (by decide)
  obtain ⟨rfl, Nq149, P149_0⟩ := hQ149
  have N149 := Fr.app N140 Nq149
  have Fc150 := (F_modCount_v0.keep KK143 (ninS nq147 nin0))
  obtain ⟨_, T151, L151, X151, hQ151, st151⟩ := own_cI X149 hx hZ102 hw how102 (b := v0) (W := 0) (rmm24 l Z a0 hw [] v0 (3 : Int32) T140.heap n0 ZZ142 Fc145 Fc150) (by decide) (by decide) (by decide) 151 rfl 152 rfl 153 rfl 154 rfl 155 rfl 156 rfl 157 rfl 56 rfl 158 rfl 6 rfl P149_0 Fc145 (g := (mkF m 130 #[oR r0, oR r1, oR r2, oI 3, oR b111, oR it_126, oR v0, oU, oU, oU] [(.ref v0)])) rfl (by rw [hml]; rfl) (argsL := []) (rest := []) (lenOf pd21 rfl) rfl (Nat.le_of_eq rfl) (hb hby d14_130) rfl (cN := 6) rfl (by decide) (sN := 33) rfl (by decide)
  obtain ⟨it_151, rfl, Nq151, P151_0, P151_1, P151_2, P151_3, P151_4, P151_5, P151_6⟩ := hQ151
  have N151 := Fr.app N149 Nq151
  have g_it_151 : n0 ≤ it_151 := Nat.le_trans ZZ142 P151_1
  have sz_it_151 : h0.size ≤ it_151 := Nat.le_trans KK143.1 P151_1
  have SK152 := Nat.le_trans SK141 P151_0.1
  have ZZ153 : n0 ≤ T151.heap.size := Nat.le_trans ZZ142 P151_0.1
  have KK154 : Keep h0 T151.heap [r0] := Keep.trans KK143 P151_0 all0
  have Fc155 := (F_size_v0.keep KK154 (ninS nq147 nin0))
  obtain ⟨_, T156, L156, X156, hQ156, st156⟩ := own_cI X151 hx hZ102 hw how102 (b := it_151) (W := 0) (rm_hn1 l Z a0 hw [] it_151 v0 (3 : Int32) (0 : Int32) (3 : Int32) (.int (-1)) T151.heap n0 ZZ153 P151_3 P151_4 P151_5 P151_6 Fc155 (by decide)) (by decide) (by decide) (by decide) 174 rfl 175 rfl 176 rfl 177 rfl 178 rfl 179 rfl 180 rfl 181 rfl 182 rfl 161 rfl rfl P151_2 (g := (mkF m 139 #[oR r0, oR r1, oR r2, oI 3, oR b111, oR it_126, oR v0, oR it_151, oU, oU] [(.ref it_151)])) rfl (by rw [hml]; rfl) (argsL := []) (rest := []) (lenOf pd15 rfl) rfl (Nat.le_of_eq rfl) (hb hby d14_139) rfl (cN := 6) rfl (by decide) (sN := 33) rfl (by decide)
  obtain ⟨rfl, Nq156, P156_0⟩ := hQ156
  have N156 := Fr.app N151 Nq156
  have Fc157 := (E_v0.keep KK154)
  have Fc158 := (F_modCount_v0.keep KK154 (ninS nq147 nin0))
  have Fc159 := (F_elementData_v0.keep KK154 (ninS nq147 nin0))
  have Fc160 := (E_el0.keep KK154)
  have Fc161 := ((Fc137.keep P140_0).keep P151_0)
  have nq162 : el0 ≠ r0 := (ne_exa Fc160 Fc161 (by decide))
  have Fc163 := (V_el0.keep KK154 (ninS nq162 nin0))
  obtain ⟨_, T164, L164, X164, hQ164, st164⟩ := own_cI X156 hx hZ102 hw how102 (b := it_151) (W := 0) (rmm27 l Z a0 hw [] it_151 v0 (3 : Int32) (0 : Int32) (3 : Int32) (.int (-1)) el0 x00 kel0 (10 : Int32) [(.ref x00), (.ref x01), (.ref x02), .null] T151.heap n0 ZZ153 P151_2 Fc157 g_it_151 P151_3 P151_4 P151_5 P151_6 Fc155 Fc158 Fc159 Fc163 Fc160 (by decide) (by decide) (⟨by decide, by decide⟩) rfl) (by decide) (by decide) (by decide) 186 rfl 187 rfl 188 rfl 189 rfl 190 rfl 191 rfl 192 rfl 181 rfl 193 rfl 161 rfl P156_0 P151_2 (g := (mkF m 149 #[oR r0, oR r1, oR r2, oI 3, oR b111, oR it_126, oR v0, oR it_151, oU, oU] [(.ref it_151)])) rfl (by rw [hml]; rfl) (argsL := []) (rest := []) (lenOf pd22 rfl) rfl (Nat.le_of_eq rfl) (hb hby d14_149) rfl (cN := 6) rfl (by decide) (sN := 33) rfl (by decide)
  obtain ⟨rfl, Nq164, P164_0, P164_1, P164_2, P164_3, P164_4⟩ := hQ164
  have N164 := Fr.app N156 Nq164
  have SK165 := Nat.le_trans SK152 P164_0.1
  have ZZ166 : n0 ≤ T164.heap.size := Nat.le_trans ZZ153 P164_0.1
  have KK167 : Keep h0 T164.heap [r0] := Keep.trans KK154 P164_0 (allS (Or.inr sz_it_151) all0)
  have Fr168 : Fld Z T164.heap it_151 kITR "cursor" "I" (.int 1) := (own_fi (by decide) P164_1)
  have Fc169 := (E_x00.keep KK167)
  obtain ⟨T170, X170, e170, st170⟩ := castY X164 hx hZ102 how102 (own_w hw 200 rfl) rfl (Ins.self Fc169) (g := (mkF m 154 #[oR r0, oR r1, oR r2, oI 3, oR b111, oR it_126, oR v0, oR it_151, oU, oU] [(.ref x00)])) rfl rfl (hb hby d14_154)
  have nq171 : x00 ≠ r0 := (ne_exa Fc169 (Fc161.keep P164_0) (by decide))
  have Fc172 := (F_value_x00.keep KK167 (ninS nq171 nin0))
  obtain ⟨_, T173, L173, X173, hQ173, st173⟩ := own_cV X170 hx hZ102 hw how102 (b := x00) (W := 0) (rmm29 l Z a0 hw [] x00 d00 T164.heap n0 ZZ166 Fc172) (by decide) (by decide) (by decide) 201 rfl 202 rfl 204 rfl 203 rfl 205 rfl 32 rfl e170 Fc169 (g := (mkF m 157 #[oR r0, oR r1, oR r2, oI 3, oR b111, oR it_126, oR v0, oR it_151, oU, oU] [(.ref x00)])) rfl (by rw [hml]; rfl) (argsL := []) (rest := []) (lenOf pd23 rfl) rfl (Nat.le_of_eq rfl) (hb hby d14_157) rfl (cN := 6) rfl (by decide) (sN := 33) rfl (by decide)
  obtain ⟨rfl, Nq173, P173_0⟩ := hQ173
  have N173 := Fr.app N164 Nq173
  obtain ⟨_, T174, L174, X174, hQ174, st174⟩ := own_cS X173 hx hZ102 hw how102 (W := 0) (rmm30 l Z a0 hw [] d00 T164.heap n0 ZZ166 hn_d00 hf_d00) (by decide) (by decide) (by decide) 206 rfl 207 rfl 32 rfl 208 rfl P173_0 (g := (mkF m 164 #[oR r0, oR r1, oR r2, oI 3, oR b111, oR it_126, oR v0, oR it_151, oD d00, oV] [(.double d00)])) rfl (by rw [hml]; rfl) (argsL := [(.double d00)]) (rest := []) (lenOf pd24 rfl) rfl (Nat.le_of_eq rfl) (hb hby d14_164) rfl (cN := 6) rfl (by decide) (sN := 33) rfl (by decide)
  obtain ⟨rfl, Nq174, P174_0⟩ := hQ174
  have N174 := Fr.app N173 Nq174
  have Fc175 := (F_size_v0.keep KK167 (ninS nq147 nin0))
  obtain ⟨_, T176, L176, X176, hQ176, st176⟩ := own_cI X174 hx hZ102 hw how102 (b := it_151) (W := 0) (rm_hn1 l Z a0 hw [] it_151 v0 (3 : Int32) (1 : Int32) (3 : Int32) (.int 0) T164.heap n0 ZZ166 Fr168 P164_2 P164_3 P164_4 Fc175 (by decide)) (by decide) (by decide) (by decide) 174 rfl 175 rfl 176 rfl 177 rfl 178 rfl 179 rfl 180 rfl 181 rfl 182 rfl 161 rfl P174_0 (P151_2.keep P164_0) (g := (mkF m 139 #[oR r0, oR r1, oR r2, oI 3, oR b111, oR it_126, oR v0, oR it_151, oD d00, oV] [(.ref it_151)])) rfl (by rw [hml]; rfl) (argsL := []) (rest := []) (lenOf pd15 rfl) rfl (Nat.le_of_eq rfl) (hb hby d14_139) rfl (cN := 6) rfl (by decide) (sN := 33) rfl (by decide)
  obtain ⟨rfl, Nq176, P176_0⟩ := hQ176
  have N176 := Fr.app N174 Nq176
  have Fc177 := (E_v0.keep KK167)
  have Fc178 := (F_modCount_v0.keep KK167 (ninS nq147 nin0))
  have Fc179 := (F_elementData_v0.keep KK167 (ninS nq147 nin0))
  have Fc180 := (V_el0.keep KK167 (ninS nq162 nin0))
  have Fc181 := (E_el0.keep KK167)
  obtain ⟨_, T182, L182, X182, hQ182, st182⟩ := own_cI X176 hx hZ102 hw how102 (b := it_151) (W := 0) (rmm27 l Z a0 hw [] it_151 v0 (3 : Int32) (1 : Int32) (3 : Int32) (.int 0) el0 x01 kel0 (10 : Int32) [(.ref x00), (.ref x01), (.ref x02), .null] T164.heap n0 ZZ166 (P151_2.keep P164_0) Fc177 g_it_151 Fr168 P164_2 P164_3 P164_4 Fc175 Fc178 Fc179 Fc180 Fc181 (by decide) (by decide) (⟨by decide, by decide⟩) rfl) (by decide) (by decide) (by decide) 186 rfl 187 rfl 188 rfl 189 rfl 190 rfl 191 rfl 192 rfl 181 rfl 193 rfl 161 rfl P176_0 (P151_2.keep P164_0) (g := (mkF m 149 #[oR r0, oR r1, oR r2, oI 3, oR b111, oR it_126, oR v0, oR it_151, oD d00, oV] [(.ref it_151)])) rfl (by rw [hml]; rfl) (argsL := []) (rest := []) (lenOf pd22 rfl) rfl (Nat.le_of_eq rfl) (hb hby d14_149) rfl (cN := 6) rfl (by decide) (sN := 33) rfl (by decide)
  obtain ⟨rfl, Nq182, P182_0, P182_1, P182_2, P182_3, P182_4⟩ := hQ182
  have N182 := Fr.app N176 Nq182
  have SK183 := Nat.le_trans SK165 P182_0.1
  have ZZ184 : n0 ≤ T182.heap.size := Nat.le_trans ZZ166 P182_0.1
  have KK185 : Keep h0 T182.heap [r0] := Keep.trans KK167 P182_0 (allS (Or.inr sz_it_151) all0)
  have Fr186 : Fld Z T182.heap it_151 kITR "cursor" "I" (.int 2) := (own_fi (by decide) P182_1)
  have Fc187 := (E_x01.keep KK185)
  obtain ⟨T188, X188, e188, st188⟩ := castY X182 hx hZ102 how102 (own_w hw 200 rfl) rfl (Ins.self Fc187) (g := (mkF m 154 #[oR r0, oR r1, oR r2, oI 3, oR b111, oR it_126, oR v0, oR it_151, oD d00, oV] [(.ref x01)])) rfl rfl (hb hby d14_154)
  have Fc189 := ((Fc161.keep P164_0).keep P182_0)
  have nq190 : x01 ≠ r0 := (ne_exa Fc187 Fc189 (by decide))
  have Fc191 := (F_value_x01.keep KK185 (ninS nq190 nin0))
  obtain ⟨_, T192, L192, X192, hQ192, st192⟩ := own_cV X188 hx hZ102 hw how102 (b := x01) (W := 0) (rmm29 l Z a0 hw [] x01 d01 T182.heap n0 ZZ184 Fc191) (by decide) (by decide) (by decide) 201 rfl 202 rfl 204 rfl 203 rfl 205 rfl 32 rfl e188 Fc187 (g := (mkF m 157 #[oR r0, oR r1, oR r2, oI 3, oR b111, oR it_126, oR v0, oR it_151, oD d00, oV] [(.ref x01)])) rfl (by rw [hml]; rfl) (argsL := []) (rest := []) (lenOf pd23 rfl) rfl (Nat.le_of_eq rfl) (hb hby d14_157) rfl (cN := 6) rfl (by decide) (sN := 33) rfl (by decide)
  obtain ⟨rfl, Nq192, P192_0⟩ := hQ192
  have N192 := Fr.app N182 Nq192
  obtain ⟨_, T193, L193, X193, hQ193, st193⟩ := own_cS X192 hx hZ102 hw how102 (W := 0) (rmm30 l Z a0 hw [] d01 T182.heap n0 ZZ184 hn_d01 hf_d01) (by decide) (by decide) (by decide) 206 rfl 207 rfl 32 rfl 208 rfl P192_0 (g := (mkF m 164 #[oR r0, oR r1, oR r2, oI 3, oR b111, oR it_126, oR v0, oR it_151, oD d01, oV] [(.double d01)])) rfl (by rw [hml]; rfl) (argsL := [(.double d01)]) (rest := []) (lenOf pd24 rfl) rfl (Nat.le_of_eq rfl) (hb hby d14_164) rfl (cN := 6) rfl (by decide) (sN := 33) rfl (by decide)
  obtain ⟨rfl, Nq193, P193_0⟩ := hQ193
  have N193 := Fr.app N192 Nq193
  have Fc194 := (F_size_v0.keep KK185 (ninS nq147 nin0))
  have Fc196 := ((P151_2.keep P164_0).keep P182_0)
  obtain ⟨_, T195, L195, X195, hQ195, st195⟩ := own_cI X193 hx hZ102 hw how102 (b := it_151) (W := 0) (rm_hn1 l Z a0 hw [] it_151 v0 (3 : Int32) (2 : Int32) (3 : Int32) (.int 1) T182.heap n0 ZZ184 Fr186 P182_2 P182_3 P182_4 Fc194 (by decide)) (by decide) (by decide) (by decide) 174 rfl 175 rfl 176 rfl 177 rfl 178 rfl 179 rfl 180 rfl 181 rfl 182 rfl 161 rfl P193_0 Fc196 (g := (mkF m 139 #[oR r0, oR r1, oR r2, oI 3, oR b111, oR it_126, oR v0, oR it_151, oD d01, oV] [(.ref it_151)])) rfl (by rw [hml]; rfl) (argsL := []) (rest := []) (lenOf pd15 rfl) rfl (Nat.le_of_eq rfl) (hb hby d14_139) rfl (cN := 6) rfl (by decide) (sN := 33) rfl (by decide)
  obtain ⟨rfl, Nq195, P195_0⟩ := hQ195
  have N195 := Fr.app N193 Nq195
  have Fc197 := (E_v0.keep KK185)
  have Fc198 := (F_modCount_v0.keep KK185 (ninS nq147 nin0))
  have Fc199 := (F_elementData_v0.keep KK185 (ninS nq147 nin0))
  have Fc200 := (V_el0.keep KK185 (ninS nq162 nin0))
  have Fc201 := (E_el0.keep KK185)
  obtain ⟨_, T202, L202, X202, hQ202, st202⟩ := own_cI X195 hx hZ102 hw how102 (b := it_151) (W := 0) (rmm27 l Z a0 hw [] it_151 v0 (3 : Int32) (2 : Int32) (3 : Int32) (.int 1) el0 x02 kel0 (10 : Int32) [(.ref x00), (.ref x01), (.ref x02), .null] T182.heap n0 ZZ184 Fc196 Fc197 g_it_151 Fr186 P182_2 P182_3 P182_4 Fc194 Fc198 Fc199 Fc200 Fc201 (by decide) (by decide) (⟨by decide, by decide⟩) rfl) (by decide) (by decide) (by decide) 186 rfl 187 rfl 188 rfl 189 rfl 190 rfl 191 rfl 192 rfl 181 rfl 193 rfl 161 rfl P195_0 Fc196 (g := (mkF m 149 #[oR r0, oR r1, oR r2, oI 3, oR b111, oR it_126, oR v0, oR it_151, oD d01, oV] [(.ref it_151)])) rfl (by rw [hml]; rfl) (argsL := []) (rest := []) (lenOf pd22 rfl) rfl (Nat.le_of_eq rfl) (hb hby d14_149) rfl (cN := 6) rfl (by decide) (sN := 33) rfl (by decide)
  obtain ⟨rfl, Nq202, P202_0, P202_1, P202_2, P202_3, P202_4⟩ := hQ202
  have N202 := Fr.app N195 Nq202
  have SK203 := Nat.le_trans SK183 P202_0.1
  have ZZ204 : n0 ≤ T202.heap.size := Nat.le_trans ZZ184 P202_0.1
  have KK205 : Keep h0 T202.heap [r0] := Keep.trans KK185 P202_0 (allS (Or.inr sz_it_151) all0)
  have Fr206 : Fld Z T202.heap it_151 kITR "cursor" "I" (.int 3) := (own_fi (by decide) P202_1)
  have Fc207 := (E_x02.keep KK205)
  obtain ⟨T208, X208, e208, st208⟩ := castY X202 hx hZ102 how102 (own_w hw 200 rfl) rfl (Ins.self Fc207) (g := (mkF m 154 #[oR r0, oR r1, oR r2, oI 3, oR b111, oR it_126, oR v0, oR it_151, oD d01, oV] [(.ref x02)])) rfl rfl (hb hby d14_154)
  have nq209 : x02 ≠ r0 := (ne_exa Fc207 (Fc189.keep P202_0) (by decide))
  have Fc210 := (F_value_x02.keep KK205 (ninS nq209 nin0))
  obtain ⟨_, T211, L211, X211, hQ211, st211⟩ := own_cV X208 hx hZ102 hw how102 (b := x02) (W := 0) (rmm29 l Z a0 hw [] x02 d02 T202.heap n0 ZZ204 Fc210) (by decide) (by decide) (by decide) 201 rfl 202 rfl 204 rfl 203 rfl 205 rfl 32 rfl e208 Fc207 (g := (mkF m 157 #[oR r0, oR r1, oR r2, oI 3, oR b111, oR it_126, oR v0, oR it_151, oD d01, oV] [(.ref x02)])) rfl (by rw [hml]; rfl) (argsL := []) (rest := []) (lenOf pd23 rfl) rfl (Nat.le_of_eq rfl) (hb hby d14_157) rfl (cN := 6) rfl (by decide) (sN := 33) rfl (by decide)
  obtain ⟨rfl, Nq211, P211_0⟩ := hQ211
  have N211 := Fr.app N202 Nq211
  obtain ⟨_, T212, L212, X212, hQ212, st212⟩ := own_cS X211 hx hZ102 hw how102 (W := 0) (rmm30 l Z a0 hw [] d02 T202.heap n0 ZZ204 hn_d02 hf_d02) (by decide) (by decide) (by decide) 206 rfl 207 rfl 32 rfl 208 rfl P211_0 (g := (mkF m 164 #[oR r0, oR r1, oR r2, oI 3, oR b111, oR it_126, oR v0, oR it_151, oD d02, oV] [(.double d02)])) rfl (by rw [hml]; rfl) (argsL := [(.double d02)]) (rest := []) (lenOf pd24 rfl) rfl (Nat.le_of_eq rfl) (hb hby d14_164) rfl (cN := 6) rfl (by decide) (sN := 33) rfl (by decide)
  obtain ⟨rfl, Nq212, P212_0⟩ := hQ212
  have N212 := Fr.app N211 Nq212
  have Fc213 := (F_size_v0.keep KK205 (ninS nq147 nin0))
  obtain ⟨_, T214, L214, X214, hQ214, st214⟩ := own_cI X212 hx hZ102 hw how102 (b := it_151) (W := 0) (rm_hn0 l Z a0 hw [] it_151 v0 (3 : Int32) (3 : Int32) (3 : Int32) (.int 2) T202.heap n0 ZZ204 Fr206 P202_2 P202_3 P202_4 Fc213 rfl) (by decide) (by decide) (by decide) 174 rfl 175 rfl 176 rfl 177 rfl 178 rfl 179 rfl 180 rfl 181 rfl 182 rfl 161 rfl P212_0 (Fc196.keep P202_0) (g := (mkF m 139 #[oR r0, oR r1, oR r2, oI 3, oR b111, oR it_126, oR v0, oR it_151, oD d02, oV] [(.ref it_151)])) rfl (by rw [hml]; rfl) (argsL := []) (rest := []) (lenOf pd15 rfl) rfl (Nat.le_of_eq rfl) (hb hby d14_139) rfl (cN := 6) rfl (by decide) (sN := 33) rfl (by decide)
  obtain ⟨rfl, Nq214, P214_0⟩ := hQ214
  have N214 := Fr.app N212 Nq214
  have Fc215 := (E_v0.keep KK205)
  have Fc216 := (F_elementData_v0.keep KK205 (ninS nq147 nin0))
  have Fc217 := (V_el0.keep KK205 (ninS nq162 nin0))
  have Fc218 := (E_el0.keep KK205)
  have Fc219 := (E_x00.keep KK205)
  have Fc220 := (E_x01.keep KK205)
  obtain ⟨_, T221, L221, X221, hQ221, st221⟩ := own_cS X214 hx hZ102 hw how102 (W := 1) (rm_co3_10 l Z a0 hw [] v0 el0 kel0 x00 x01 x02 mr T202.heap n0 ZZ204 Fc215 Fc216 Fc213 Fc217 Fc218 (Ins.of_exa Fc219 (own_w hw 83 rfl)) (Ins.of_exa Fc220 (own_w hw 83 rfl)) (Ins.of_exa Fc207 (own_w hw 83 rfl)) M_mr) (by decide) (by decide) (by decide) 213 rfl 214 rfl 215 rfl 216 rfl P214_0 (g := (mkF m 193 #[oR r0, oR r1, oR r2, oI 3, oR b111, oR it_126, oR v0, oR it_151, oD d02, oV] [(.ref v0), (.ref b111)])) rfl (by rw [hml]; rfl) (argsL := [(.ref v0)]) (rest := [(.ref b111)]) (lenOf pd16 rfl) rfl (Nat.le_of_eq rfl) (hb hby d14_193) rfl (cN := 9) rfl (by decide) (sN := 41) rfl (by decide)
  obtain ⟨LL_221, A_221, kA_221, rfl, Nq221, P221_0, P221_1, P221_2, P221_3, P221_4, P221_5, P221_6, P221_7⟩ := hQ221
  have N221 := Fr.app N214 Nq221
  have g_LL_221 : n0 ≤ LL_221 := Nat.le_trans ZZ204 P221_1
  have sz_LL_221 : h0.size ≤ LL_221 := Nat.le_trans KK205.1 P221_1
  have g_A_221 : n0 ≤ A_221 := Nat.le_trans ZZ204 P221_2
  have sz_A_221 : h0.size ≤ A_221 := Nat.le_trans KK205.1 P221_2
  have SK222 := Nat.le_trans SK203 P221_0.1
  have ZZ223 : n0 ≤ T221.heap.size := Nat.le_trans ZZ204 P221_0.1
  have KK224 : Keep h0 T221.heap [r0] := Keep.trans KK205 P221_0 all0
  have Fc225 := ((((((((A111.keep P120_0).keep P126_0).keep P140_0).keep P151_0).keep P164_0).keep P182_0).keep P202_0).keep P221_0)
  have nq226 : b111 ≠ it_126 := (Nat.ne_of_lt (Nat.lt_of_lt_of_le P120_2.lt P126_1))
  have nq227 : b111 ≠ it_151 := (Nat.ne_of_lt (Nat.lt_of_lt_of_le ((P120_2.keep P126_0 nin0).keep P140_0 (ninS nq226 nin0)).lt P151_1))
  have Fc228 := (((((((P120_2.keep P126_0 nin0).keep P140_0 (ninS nq226 nin0)).keep P151_0 nin0).keep P164_0 (ninS nq227 nin0)).keep P182_0 (ninS nq227 nin0)).keep P202_0 (ninS nq227 nin0)).keep P221_0 nin0)
  have Fc229 := (((((((P120_3.keep P126_0 nin0).keep P140_0 (ninS nq226 nin0)).keep P151_0 nin0).keep P164_0 (ninS nq227 nin0)).keep P182_0 (ninS nq227 nin0)).keep P202_0 (ninS nq227 nin0)).keep P221_0 nin0)
  have Fc230 := (((((((P120_4.keep P126_0 nin0).keep P140_0 (ninS nq226 nin0)).keep P151_0 nin0).keep P164_0 (ninS nq227 nin0)).keep P182_0 (ninS nq227 nin0)).keep P202_0 (ninS nq227 nin0)).keep P221_0 nin0)
  have nq231 : el_120 ≠ it_126 := (Nat.ne_of_lt (Nat.lt_of_lt_of_le P120_6.lt P126_1))
  have nq232 : el_120 ≠ it_151 := (Nat.ne_of_lt (Nat.lt_of_lt_of_le ((P120_6.keep P126_0).keep P140_0).lt P151_1))
  have Fc233 := (((((((P120_5.keep P126_0 nin0).keep P140_0 (ninS nq231 nin0)).keep P151_0 nin0).keep P164_0 (ninS nq232 nin0)).keep P182_0 (ninS nq232 nin0)).keep P202_0 (ninS nq232 nin0)).keep P221_0 nin0)
  have Fc234 := (((((((P120_6.keep P126_0).keep P140_0).keep P151_0).keep P164_0).keep P182_0).keep P202_0).keep P221_0)
  obtain ⟨_, T235, L235, X235, hQ235, st235⟩ := own_cI X221 hx hZ102 hw how102 (b := b111) (W := 0) (rm_a1n l Z a0 hw [] b111 LL_221 (0 : Int32) el_120 kel_120 (0 : Int32) (2 : Int32) 0 [.null, .null] T221.heap n0 ZZ223 Fc225 g_b111 g_el_120 Fc228 Fc229 Fc230 Fc233 Fc234 P120_7 (Ins.of_exa P221_3 (own_w hw 297 rfl)) (by decide) (⟨by decide, by decide⟩) (by decide) (Nat.le_of_ble_eq_true rfl)) (by decide) (by decide) (by decide) 296 rfl 50 rfl 51 rfl 52 rfl 53 rfl 54 rfl 55 rfl 56 rfl 57 rfl 6 rfl rfl Fc225 (g := (mkF m 196 #[oR r0, oR r1, oR r2, oI 3, oR b111, oR it_126, oR v0, oR it_151, oD d02, oV] [(.ref LL_221), (.ref b111)])) rfl (by rw [hml]; rfl) (argsL := [(.ref LL_221)]) (rest := []) (lenOf pd25 rfl) rfl (Nat.le_of_eq rfl) (hb hby d14_196) rfl (cN := 9) rfl (by decide) (sN := 41) rfl (by decide)
  obtain ⟨rfl, Nq235, P235_0, P235_1, P235_2, P235_3, P235_4⟩ := hQ235
  have N235 := Fr.app N221 Nq235
  have SK236 := Nat.le_trans SK222 P235_0.1
  have ZZ237 : n0 ≤ T235.heap.size := Nat.le_trans ZZ223 P235_0.1
  have KK238 : Keep h0 T235.heap [r0] := Keep.trans KK224 P235_0 (allS (Or.inr sz_b111) (allS (Or.inr sz_el_120) all0))
  have Vr239 : Arv Z T235.heap el_120 kel_120 (.object kOB) (2 : Int32) [(.ref LL_221), .null] .null := P235_4
  have Fr240 : Fld Z T235.heap b111 kAL "size" "I" (.int 1) := (own_fi (by decide) P235_2)
  have Fr241 : Fld Z T235.heap b111 kABL "modCount" "I" (.int 1) := (own_fi (by decide) P235_3)
  have nq242 : it_126 ≠ it_151 := (Nat.ne_of_lt (Nat.lt_of_lt_of_le Fr144.lt P151_1))
  have Fc243 := ((((((Fr144.keep P151_0 nin0).keep P164_0 (ninS nq242 nin0)).keep P182_0 (ninS nq242 nin0)).keep P202_0 (ninS nq242 nin0)).keep P221_0 nin0).keep P235_0 (ninS (Ne.symm nq226) (ninS (Ne.symm nq231) nin0)))
  have Fc244 := ((((((P140_2.keep P151_0 nin0).keep P164_0 (ninS nq242 nin0)).keep P182_0 (ninS nq242 nin0)).keep P202_0 (ninS nq242 nin0)).keep P221_0 nin0).keep P235_0 (ninS (Ne.symm nq226) (ninS (Ne.symm nq231) nin0)))
  have Fc245 := ((((((P140_3.keep P151_0 nin0).keep P164_0 (ninS nq242 nin0)).keep P182_0 (ninS nq242 nin0)).keep P202_0 (ninS nq242 nin0)).keep P221_0 nin0).keep P235_0 (ninS (Ne.symm nq226) (ninS (Ne.symm nq231) nin0)))
  have Fc246 := ((((((P140_4.keep P151_0 nin0).keep P164_0 (ninS nq242 nin0)).keep P182_0 (ninS nq242 nin0)).keep P202_0 (ninS nq242 nin0)).keep P221_0 nin0).keep P235_0 (ninS (Ne.symm nq226) (ninS (Ne.symm nq231) nin0)))
  have Fc247 := (F_size_r2.keep KK238 (ninS nq117 nin0))
  have Fc249 := (((((((P126_2.keep P140_0).keep P151_0).keep P164_0).keep P182_0).keep P202_0).keep P221_0).keep P235_0)
  obtain ⟨_, T248, L248, X248, hQ248, st248⟩ := own_cI X235 hx hZ102 hw how102 (b := it_126) (W := 0) (rm_hn1 l Z a0 hw [] it_126 r2 (2 : Int32) (1 : Int32) (2 : Int32) (.int 0) T235.heap n0 ZZ237 Fc243 Fc244 Fc245 Fc246 Fc247 (by decide)) (by decide) (by decide) (by decide) 174 rfl 175 rfl 176 rfl 177 rfl 178 rfl 179 rfl 180 rfl 181 rfl 182 rfl 161 rfl rfl Fc249 (g := (mkF m 75 #[oR r0, oR r1, oR r2, oI 3, oR b111, oR it_126, oR v0, oR it_151, oD d02, oV] [(.ref it_126)])) rfl (by rw [hml]; rfl) (argsL := []) (rest := []) (lenOf pd15 rfl) rfl (Nat.le_of_eq rfl) (hb hby d14_75) rfl (cN := 9) rfl (by decide) (sN := 41) rfl (by decide)
  obtain ⟨rfl, Nq248, P248_0⟩ := hQ248
  have N248 := Fr.app N235 Nq248
  have Fc250 := (E_r2.keep KK238)
  have Fc251 := (F_modCount_r2.keep KK238 (ninS nq117 nin0))
  have nq252 : r2 ≠ it_126 := (ne_exa Fc250 Fc249 (by decide))
  have Fc253 := (((Fc196.keep P202_0).keep P221_0).keep P235_0)
  have nq254 : r2 ≠ it_151 := (ne_exa Fc250 Fc253 (by decide))
  have nq255 : r2 ≠ el_120 := (ne_exa Fc250 (Fc234.keep P235_0) (by decide))
  have Fc256 := (((((((Fc135.keep P140_0 (ninS nq252 nin0)).keep P151_0 nin0).keep P164_0 (ninS nq254 nin0)).keep P182_0 (ninS nq254 nin0)).keep P202_0 (ninS nq254 nin0)).keep P221_0 nin0).keep P235_0 (ninS nq134 (ninS nq255 nin0)))
  have Fc257 := (V_el.keep KK238 (ninS nq138 nin0))
  have Fc258 := (E_el.keep KK238)
  obtain ⟨_, T259, L259, X259, hQ259, st259⟩ := own_cI X248 hx hZ102 hw how102 (b := it_126) (W := 0) (rmm27 l Z a0 hw [] it_126 r2 (2 : Int32) (1 : Int32) (2 : Int32) (.int 0) el v1 kel (10 : Int32) [(.ref v0), (.ref v1), .null, .null] T235.heap n0 ZZ237 Fc249 Fc250 g_it_126 Fc243 Fc244 Fc245 Fc246 Fc247 Fc251 Fc256 Fc257 Fc258 (by decide) (by decide) (⟨by decide, by decide⟩) rfl) (by decide) (by decide) (by decide) 186 rfl 187 rfl 188 rfl 189 rfl 190 rfl 191 rfl 192 rfl 181 rfl 193 rfl 161 rfl P248_0 Fc249 (g := (mkF m 85 #[oR r0, oR r1, oR r2, oI 3, oR b111, oR it_126, oR v0, oR it_151, oD d02, oV] [(.ref it_126)])) rfl (by rw [hml]; rfl) (argsL := []) (rest := []) (lenOf pd22 rfl) rfl (Nat.le_of_eq rfl) (hb hby d14_85) rfl (cN := 9) rfl (by decide) (sN := 41) rfl (by decide)
  obtain ⟨rfl, Nq259, P259_0, P259_1, P259_2, P259_3, P259_4⟩ := hQ259
  have N259 := Fr.app N248 Nq259
  have SK260 := Nat.le_trans SK236 P259_0.1
  have ZZ261 : n0 ≤ T259.heap.size := Nat.le_trans ZZ237 P259_0.1
  have KK262 : Keep h0 T259.heap [r0] := Keep.trans KK238 P259_0 (allS (Or.inr sz_it_126) all0)
  have Fr263 : Fld Z T259.heap it_126 kITR "cursor" "I" (.int 2) := (own_fi (by decide) P259_1)
  have Fc264 := (E_v1.keep KK262)
  obtain ⟨T265, X265, e265, st265⟩ := castY X259 hx hZ102 how102 (own_w hw 138 rfl) rfl (Ins.of_exa Fc264 (own_w hw 56 rfl)) (g := (mkF m 90 #[oR r0, oR r1, oR r2, oI 3, oR b111, oR it_126, oR v0, oR it_151, oD d02, oV] [(.ref v1)])) rfl rfl (hb hby d14_90)
  have Fc266 := ((((Fc189.keep P202_0).keep P221_0).keep P235_0).keep P259_0)
  have nq267 : v1 ≠ r0 := (ne_exa Fc264 Fc266 (by decide))
  have Fc268 := (F_size_v1.keep KK262 (ninS nq267 nin0))
  obtain ⟨_, T269, L269, X269, hQ269, st269⟩ := own_cI X265 hx hZ102 hw how102 (b := v1) (W := 0) (rmm22 l Z a0 hw [] v1 (3 : Int32) T259.heap n0 ZZ261 Fc268) (by decide) (by decide) (by decide) 139 rfl 140 rfl 141 rfl 142 rfl 143 rfl 144 rfl 145 rfl 56 rfl 146 rfl 6 rfl e265 Fc264 (g := (mkF m 97 #[oR r0, oR r1, oR r2, oI 3, oR b111, oR it_126, oR v1, oR it_151, oD d02, oV] [(.ref v1)])) rfl (by rw [hml]; rfl) (argsL := []) (rest := []) (lenOf pd19 rfl) rfl (Nat.le_of_eq rfl) (hb hby d14_97) rfl (cN := 9) rfl (by decide) (sN := 41) rfl (by decide)
  obtain ⟨rfl, Nq269, P269_0⟩ := hQ269
  have N269 := Fr.app N259 Nq269
  have Fc270 := (F_modCount_v1.keep KK262 (ninS nq267 nin0))
  obtain ⟨_, T271, L271, X271, hQ271, st271⟩ := own_cI X269 hx hZ102 hw how102 (b := v1) (W := 0) (rmm24 l Z a0 hw [] v1 (3 : Int32) T259.heap n0 ZZ261 Fc264 Fc270) (by decide) (by decide) (by decide) 151 rfl 152 rfl 153 rfl 154 rfl 155 rfl 156 rfl 157 rfl 56 rfl 158 rfl 6 rfl P269_0 Fc264 (g := (mkF m 130 #[oR r0, oR r1, oR r2, oI 3, oR b111, oR it_126, oR v1, oR it_151, oD d02, oV] [(.ref v1)])) rfl (by rw [hml]; rfl) (argsL := []) (rest := []) (lenOf pd21 rfl) rfl (Nat.le_of_eq rfl) (hb hby d14_130) rfl (cN := 10) rfl (by decide) (sN := 45) rfl (by decide)
  obtain ⟨it_271, rfl, Nq271, P271_0, P271_1, P271_2, P271_3, P271_4, P271_5, P271_6⟩ := hQ271
  have N271 := Fr.app N269 Nq271
  have g_it_271 : n0 ≤ it_271 := Nat.le_trans ZZ261 P271_1
  have sz_it_271 : h0.size ≤ it_271 := Nat.le_trans KK262.1 P271_1
  have SK272 := Nat.le_trans SK260 P271_0.1
  have ZZ273 : n0 ≤ T271.heap.size := Nat.le_trans ZZ261 P271_0.1
  have KK274 : Keep h0 T271.heap [r0] := Keep.trans KK262 P271_0 all0
  have Fc275 := (F_size_v1.keep KK274 (ninS nq267 nin0))
  obtain ⟨_, T276, L276, X276, hQ276, st276⟩ := own_cI X271 hx hZ102 hw how102 (b := it_271) (W := 0) (rm_hn1 l Z a0 hw [] it_271 v1 (3 : Int32) (0 : Int32) (3 : Int32) (.int (-1)) T271.heap n0 ZZ273 P271_3 P271_4 P271_5 P271_6 Fc275 (by decide)) (by decide) (by decide) (by decide) 174 rfl 175 rfl 176 rfl 177 rfl 178 rfl 179 rfl 180 rfl 181 rfl 182 rfl 161 rfl rfl P271_2 (g := (mkF m 139 #[oR r0, oR r1, oR r2, oI 3, oR b111, oR it_126, oR v1, oR it_271, oD d02, oV] [(.ref it_271)])) rfl (by rw [hml]; rfl) (argsL := []) (rest := []) (lenOf pd15 rfl) rfl (Nat.le_of_eq rfl) (hb hby d14_139) rfl (cN := 10) rfl (by decide) (sN := 45) rfl (by decide)
  obtain ⟨rfl, Nq276, P276_0⟩ := hQ276
  have N276 := Fr.app N271 Nq276
  have Fc277 := (E_v1.keep KK274)
  have Fc278 := (F_modCount_v1.keep KK274 (ninS nq267 nin0))
  have Fc279 := (F_elementData_v1.keep KK274 (ninS nq267 nin0))
  have Fc280 := (E_el1.keep KK274)
  have nq281 : el1 ≠ r0 := (ne_exa Fc280 (Fc266.keep P271_0) (by decide))
  have Fc282 := (V_el1.keep KK274 (ninS nq281 nin0))
  obtain ⟨_, T283, L283, X283, hQ283, st283⟩ := own_cI X276 hx hZ102 hw how102 (b := it_271) (W := 0) (rmm27 l Z a0 hw [] it_271 v1 (3 : Int32) (0 : Int32) (3 : Int32) (.int (-1)) el1 x10 kel1 (10 : Int32) [(.ref x10), (.ref x11), (.ref x12), .null] T271.heap n0 ZZ273 P271_2 Fc277 g_it_271 P271_3 P271_4 P271_5 P271_6 Fc275 Fc278 Fc279 Fc282 Fc280 (by decide) (by decide) (⟨by decide, by decide⟩) rfl) (by decide) (by decide) (by decide) 186 rfl 187 rfl 188 rfl 189 rfl 190 rfl 191 rfl 192 rfl 181 rfl 193 rfl 161 rfl P276_0 P271_2 (g := (mkF m 149 #[oR r0, oR r1, oR r2, oI 3, oR b111, oR it_126, oR v1, oR it_271, oD d02, oV] [(.ref it_271)])) rfl (by rw [hml]; rfl) (argsL := []) (rest := []) (lenOf pd22 rfl) rfl (Nat.le_of_eq rfl) (hb hby d14_149) rfl (cN := 10) rfl (by decide) (sN := 45) rfl (by decide)
  obtain ⟨rfl, Nq283, P283_0, P283_1, P283_2, P283_3, P283_4⟩ := hQ283
  have N283 := Fr.app N276 Nq283
  have SK284 := Nat.le_trans SK272 P283_0.1
  have ZZ285 : n0 ≤ T283.heap.size := Nat.le_trans ZZ273 P283_0.1
  have KK286 : Keep h0 T283.heap [r0] := Keep.trans KK274 P283_0 (allS (Or.inr sz_it_271) all0)
  have Fr287 : Fld Z T283.heap it_271 kITR "cursor" "I" (.int 1) := (own_fi (by decide) P283_1)
  have Fc288 := (E_x10.keep KK286)
  obtain ⟨T289, X289, e289, st289⟩ := castY X283 hx hZ102 how102 (own_w hw 200 rfl) rfl (Ins.self Fc288) (g := (mkF m 154 #[oR r0, oR r1, oR r2, oI 3, oR b111, oR it_126, oR v1, oR it_271, oD d02, oV] [(.ref x10)])) rfl rfl (hb hby d14_154)
  have Fc290 := ((Fc266.keep P271_0).keep P283_0)
  have nq291 : x10 ≠ r0 := (ne_exa Fc288 Fc290 (by decide))
  have Fc292 := (F_value_x10.keep KK286 (ninS nq291 nin0))
  obtain ⟨_, T293, L293, X293, hQ293, st293⟩ := own_cV X289 hx hZ102 hw how102 (b := x10) (W := 0) (rmm29 l Z a0 hw [] x10 d10 T283.heap n0 ZZ285 Fc292) (by decide) (by decide) (by decide) 201 rfl 202 rfl 204 rfl 203 rfl 205 rfl 32 rfl e289 Fc288 (g := (mkF m 157 #[oR r0, oR r1, oR r2, oI 3, oR b111, oR it_126, oR v1, oR it_271, oD d02, oV] [(.ref x10)])) rfl (by rw [hml]; rfl) (argsL := []) (rest := []) (lenOf pd23 rfl) rfl (Nat.le_of_eq rfl) (hb hby d14_157) rfl (cN := 10) rfl (by decide) (sN := 45) rfl (by decide)
  obtain ⟨rfl, Nq293, P293_0⟩ := hQ293
  have N293 := Fr.app N283 Nq293
  obtain ⟨_, T294, L294, X294, hQ294, st294⟩ := own_cS X293 hx hZ102 hw how102 (W := 0) (rmm30 l Z a0 hw [] d10 T283.heap n0 ZZ285 hn_d10 hf_d10) (by decide) (by decide) (by decide) 206 rfl 207 rfl 32 rfl 208 rfl P293_0 (g := (mkF m 164 #[oR r0, oR r1, oR r2, oI 3, oR b111, oR it_126, oR v1, oR it_271, oD d10, oV] [(.double d10)])) rfl (by rw [hml]; rfl) (argsL := [(.double d10)]) (rest := []) (lenOf pd24 rfl) rfl (Nat.le_of_eq rfl) (hb hby d14_164) rfl (cN := 10) rfl (by decide) (sN := 45) rfl (by decide)
  obtain ⟨rfl, Nq294, P294_0⟩ := hQ294
  have N294 := Fr.app N293 Nq294
  have Fc295 := (F_size_v1.keep KK286 (ninS nq267 nin0))
  obtain ⟨_, T296, L296, X296, hQ296, st296⟩ := own_cI X294 hx hZ102 hw how102 (b := it_271) (W := 0) (rm_hn1 l Z a0 hw [] it_271 v1 (3 : Int32) (1 : Int32) (3 : Int32) (.int 0) T283.heap n0 ZZ285 Fr287 P283_2 P283_3 P283_4 Fc295 (by decide)) (by decide) (by decide) (by decide) 174 rfl 175 rfl 176 rfl 177 rfl 178 rfl 179 rfl 180 rfl 181 rfl 182 rfl 161 rfl P294_0 (P271_2.keep P283_0) (g := (mkF m 139 #[oR r0, oR r1, oR r2, oI 3, oR b111, oR it_126, oR v1, oR it_271, oD d10, oV] [(.ref it_271)])) rfl (by rw [hml]; rfl) (argsL := []) (rest := []) (lenOf pd15 rfl) rfl (Nat.le_of_eq rfl) (hb hby d14_139) rfl (cN := 10) rfl (by decide) (sN := 45) rfl (by decide)
  obtain ⟨rfl, Nq296, P296_0⟩ := hQ296
  have N296 := Fr.app N294 Nq296
  have Fc297 := (E_v1.keep KK286)
  have Fc298 := (F_modCount_v1.keep KK286 (ninS nq267 nin0))
  have Fc299 := (F_elementData_v1.keep KK286 (ninS nq267 nin0))
  have Fc300 := (V_el1.keep KK286 (ninS nq281 nin0))
  have Fc301 := (E_el1.keep KK286)
  obtain ⟨_, T302, L302, X302, hQ302, st302⟩ := own_cI X296 hx hZ102 hw how102 (b := it_271) (W := 0) (rmm27 l Z a0 hw [] it_271 v1 (3 : Int32) (1 : Int32) (3 : Int32) (.int 0) el1 x11 kel1 (10 : Int32) [(.ref x10), (.ref x11), (.ref x12), .null] T283.heap n0 ZZ285 (P271_2.keep P283_0) Fc297 g_it_271 Fr287 P283_2 P283_3 P283_4 Fc295 Fc298 Fc299 Fc300 Fc301 (by decide) (by decide) (⟨by decide, by decide⟩) rfl) (by decide) (by decide) (by decide) 186 rfl 187 rfl 188 rfl 189 rfl 190 rfl 191 rfl 192 rfl 181 rfl 193 rfl 161 rfl P296_0 (P271_2.keep P283_0) (g := (mkF m 149 #[oR r0, oR r1, oR r2, oI 3, oR b111, oR it_126, oR v1, oR it_271, oD d10, oV] [(.ref it_271)])) rfl (by rw [hml]; rfl) (argsL := []) (rest := []) (lenOf pd22 rfl) rfl (Nat.le_of_eq rfl) (hb hby d14_149) rfl (cN := 10) rfl (by decide) (sN := 45) rfl (by decide)
  obtain ⟨rfl, Nq302, P302_0, P302_1, P302_2, P302_3, P302_4⟩ := hQ302
  have N302 := Fr.app N296 Nq302
  have SK303 := Nat.le_trans SK284 P302_0.1
  have ZZ304 : n0 ≤ T302.heap.size := Nat.le_trans ZZ285 P302_0.1
  have KK305 : Keep h0 T302.heap [r0] := Keep.trans KK286 P302_0 (allS (Or.inr sz_it_271) all0)
  have Fr306 : Fld Z T302.heap it_271 kITR "cursor" "I" (.int 2) := (own_fi (by decide) P302_1)
  have Fc307 := (E_x11.keep KK305)
  obtain ⟨T308, X308, e308, st308⟩ := castY X302 hx hZ102 how102 (own_w hw 200 rfl) rfl (Ins.self Fc307) (g := (mkF m 154 #[oR r0, oR r1, oR r2, oI 3, oR b111, oR it_126, oR v1, oR it_271, oD d10, oV] [(.ref x11)])) rfl rfl (hb hby d14_154)
  have nq309 : x11 ≠ r0 := (ne_exa Fc307 (Fc290.keep P302_0) (by decide))
  have Fc310 := (F_value_x11.keep KK305 (ninS nq309 nin0))
  obtain ⟨_, T311, L311, X311, hQ311, st311⟩ := own_cV X308 hx hZ102 hw how102 (b := x11) (W := 0) (rmm29 l Z a0 hw [] x11 d11 T302.heap n0 ZZ304 Fc310) (by decide) (by decide) (by decide) 201 rfl 202 rfl 204 rfl 203 rfl 205 rfl 32 rfl e308 Fc307 (g := (mkF m 157 #[oR r0, oR r1, oR r2, oI 3, oR b111, oR it_126, oR v1, oR it_271, oD d10, oV] [(.ref x11)])) rfl (by rw [hml]; rfl) (argsL := []) (rest := []) (lenOf pd23 rfl) rfl (Nat.le_of_eq rfl) (hb hby d14_157) rfl (cN := 10) rfl (by decide) (sN := 45) rfl (by decide)
  obtain ⟨rfl, Nq311, P311_0⟩ := hQ311
  have N311 := Fr.app N302 Nq311
  obtain ⟨_, T312, L312, X312, hQ312, st312⟩ := own_cS X311 hx hZ102 hw how102 (W := 0) (rmm30 l Z a0 hw [] d11 T302.heap n0 ZZ304 hn_d11 hf_d11) (by decide) (by decide) (by decide) 206 rfl 207 rfl 32 rfl 208 rfl P311_0 (g := (mkF m 164 #[oR r0, oR r1, oR r2, oI 3, oR b111, oR it_126, oR v1, oR it_271, oD d11, oV] [(.double d11)])) rfl (by rw [hml]; rfl) (argsL := [(.double d11)]) (rest := []) (lenOf pd24 rfl) rfl (Nat.le_of_eq rfl) (hb hby d14_164) rfl (cN := 10) rfl (by decide) (sN := 45) rfl (by decide)
  obtain ⟨rfl, Nq312, P312_0⟩ := hQ312
  have N312 := Fr.app N311 Nq312
  have Fc313 := (F_size_v1.keep KK305 (ninS nq267 nin0))
  have Fc315 := ((P271_2.keep P283_0).keep P302_0)
  obtain ⟨_, T314, L314, X314, hQ314, st314⟩ := own_cI X312 hx hZ102 hw how102 (b := it_271) (W := 0) (rm_hn1 l Z a0 hw [] it_271 v1 (3 : Int32) (2 : Int32) (3 : Int32) (.int 1) T302.heap n0 ZZ304 Fr306 P302_2 P302_3 P302_4 Fc313 (by decide)) (by decide) (by decide) (by decide) 174 rfl 175 rfl 176 rfl 177 rfl 178 rfl 179 rfl 180 rfl 181 rfl 182 rfl 161 rfl P312_0 Fc315 (g := (mkF m 139 #[oR r0, oR r1, oR r2, oI 3, oR b111, oR it_126, oR v1, oR it_271, oD d11, oV] [(.ref it_271)])) rfl (by rw [hml]; rfl) (argsL := []) (rest := []) (lenOf pd15 rfl) rfl (Nat.le_of_eq rfl) (hb hby d14_139) rfl (cN := 10) rfl (by decide) (sN := 45) rfl (by decide)
  obtain ⟨rfl, Nq314, P314_0⟩ := hQ314
  have N314 := Fr.app N312 Nq314
  have Fc316 := (E_v1.keep KK305)
  have Fc317 := (F_modCount_v1.keep KK305 (ninS nq267 nin0))
  have Fc318 := (F_elementData_v1.keep KK305 (ninS nq267 nin0))
  have Fc319 := (V_el1.keep KK305 (ninS nq281 nin0))
  have Fc320 := (E_el1.keep KK305)
  obtain ⟨_, T321, L321, X321, hQ321, st321⟩ := own_cI X314 hx hZ102 hw how102 (b := it_271) (W := 0) (rmm27 l Z a0 hw [] it_271 v1 (3 : Int32) (2 : Int32) (3 : Int32) (.int 1) el1 x12 kel1 (10 : Int32) [(.ref x10), (.ref x11), (.ref x12), .null] T302.heap n0 ZZ304 Fc315 Fc316 g_it_271 Fr306 P302_2 P302_3 P302_4 Fc313 Fc317 Fc318 Fc319 Fc320 (by decide) (by decide) (⟨by decide, by decide⟩) rfl) (by decide) (by decide) (by decide) 186 rfl 187 rfl 188 rfl 189 rfl 190 rfl 191 rfl 192 rfl 181 rfl 193 rfl 161 rfl P314_0 Fc315 (g := (mkF m 149 #[oR r0, oR r1, oR r2, oI 3, oR b111, oR it_126, oR v1, oR it_271, oD d11, oV] [(.ref it_271)])) rfl (by rw [hml]; rfl) (argsL := []) (rest := []) (lenOf pd22 rfl) rfl (Nat.le_of_eq rfl) (hb hby d14_149) rfl (cN := 10) rfl (by decide) (sN := 45) rfl (by decide)
  obtain ⟨rfl, Nq321, P321_0, P321_1, P321_2, P321_3, P321_4⟩ := hQ321
  have N321 := Fr.app N314 Nq321
  have SK322 := Nat.le_trans SK303 P321_0.1
  have ZZ323 : n0 ≤ T321.heap.size := Nat.le_trans ZZ304 P321_0.1
  have KK324 : Keep h0 T321.heap [r0] := Keep.trans KK305 P321_0 (allS (Or.inr sz_it_271) all0)
  have Fr325 : Fld Z T321.heap it_271 kITR "cursor" "I" (.int 3) := (own_fi (by decide) P321_1)
  have Fc326 := (E_x12.keep KK324)
  obtain ⟨T327, X327, e327, st327⟩ := castY X321 hx hZ102 how102 (own_w hw 200 rfl) rfl (Ins.self Fc326) (g := (mkF m 154 #[oR r0, oR r1, oR r2, oI 3, oR b111, oR it_126, oR v1, oR it_271, oD d11, oV] [(.ref x12)])) rfl rfl (hb hby d14_154)
  have Fc328 := ((Fc290.keep P302_0).keep P321_0)
  have nq329 : x12 ≠ r0 := (ne_exa Fc326 Fc328 (by decide))
  have Fc330 := (F_value_x12.keep KK324 (ninS nq329 nin0))
  obtain ⟨_, T331, L331, X331, hQ331, st331⟩ := own_cV X327 hx hZ102 hw how102 (b := x12) (W := 0) (rmm29 l Z a0 hw [] x12 d12 T321.heap n0 ZZ323 Fc330) (by decide) (by decide) (by decide) 201 rfl 202 rfl 204 rfl 203 rfl 205 rfl 32 rfl e327 Fc326 (g := (mkF m 157 #[oR r0, oR r1, oR r2, oI 3, oR b111, oR it_126, oR v1, oR it_271, oD d11, oV] [(.ref x12)])) rfl (by rw [hml]; rfl) (argsL := []) (rest := []) (lenOf pd23 rfl) rfl (Nat.le_of_eq rfl) (hb hby d14_157) rfl (cN := 10) rfl (by decide) (sN := 45) rfl (by decide)
  obtain ⟨rfl, Nq331, P331_0⟩ := hQ331
  have N331 := Fr.app N321 Nq331
  obtain ⟨_, T332, L332, X332, hQ332, st332⟩ := own_cS X331 hx hZ102 hw how102 (W := 0) (rmm30 l Z a0 hw [] d12 T321.heap n0 ZZ323 hn_d12 hf_d12) (by decide) (by decide) (by decide) 206 rfl 207 rfl 32 rfl 208 rfl P331_0 (g := (mkF m 164 #[oR r0, oR r1, oR r2, oI 3, oR b111, oR it_126, oR v1, oR it_271, oD d12, oV] [(.double d12)])) rfl (by rw [hml]; rfl) (argsL := [(.double d12)]) (rest := []) (lenOf pd24 rfl) rfl (Nat.le_of_eq rfl) (hb hby d14_164) rfl (cN := 10) rfl (by decide) (sN := 45) rfl (by decide)
  obtain ⟨rfl, Nq332, P332_0⟩ := hQ332
  have N332 := Fr.app N331 Nq332
  have Fc333 := (F_size_v1.keep KK324 (ninS nq267 nin0))
  obtain ⟨_, T334, L334, X334, hQ334, st334⟩ := own_cI X332 hx hZ102 hw how102 (b := it_271) (W := 0) (rm_hn0 l Z a0 hw [] it_271 v1 (3 : Int32) (3 : Int32) (3 : Int32) (.int 2) T321.heap n0 ZZ323 Fr325 P321_2 P321_3 P321_4 Fc333 rfl) (by decide) (by decide) (by decide) 174 rfl 175 rfl 176 rfl 177 rfl 178 rfl 179 rfl 180 rfl 181 rfl 182 rfl 161 rfl P332_0 (Fc315.keep P321_0) (g := (mkF m 139 #[oR r0, oR r1, oR r2, oI 3, oR b111, oR it_126, oR v1, oR it_271, oD d12, oV] [(.ref it_271)])) rfl (by rw [hml]; rfl) (argsL := []) (rest := []) (lenOf pd15 rfl) rfl (Nat.le_of_eq rfl) (hb hby d14_139) rfl (cN := 10) rfl (by decide) (sN := 45) rfl (by decide)
  obtain ⟨rfl, Nq334, P334_0⟩ := hQ334
  have N334 := Fr.app N332 Nq334
  have Fc335 := (E_v1.keep KK324)
  have Fc336 := (F_elementData_v1.keep KK324 (ninS nq267 nin0))
  have Fc337 := (V_el1.keep KK324 (ninS nq281 nin0))
  have Fc338 := (E_el1.keep KK324)
  have Fc339 := (E_x10.keep KK324)
  have Fc340 := (E_x11.keep KK324)
  obtain ⟨_, T341, L341, X341, hQ341, st341⟩ := own_cS X334 hx hZ102 hw how102 (W := 1) (rm_co3_10 l Z a0 hw [] v1 el1 kel1 x10 x11 x12 mr T321.heap n0 ZZ323 Fc335 Fc336 Fc333 Fc337 Fc338 (Ins.of_exa Fc339 (own_w hw 83 rfl)) (Ins.of_exa Fc340 (own_w hw 83 rfl)) (Ins.of_exa Fc326 (own_w hw 83 rfl)) M_mr) (by decide) (by decide) (by decide) 213 rfl 214 rfl 215 rfl 216 rfl P334_0 (g := (mkF m 193 #[oR r0, oR r1, oR r2, oI 3, oR b111, oR it_126, oR v1, oR it_271, oD d12, oV] [(.ref v1), (.ref b111)])) rfl (by rw [hml]; rfl) (argsL := [(.ref v1)]) (rest := [(.ref b111)]) (lenOf pd16 rfl) rfl (Nat.le_of_eq rfl) (hb hby d14_193) rfl (cN := 13) rfl (by decide) (sN := 53) rfl (by decide)
  obtain ⟨LL_341, A_341, kA_341, rfl, Nq341, P341_0, P341_1, P341_2, P341_3, P341_4, P341_5, P341_6, P341_7⟩ := hQ341
  have N341 := Fr.app N334 Nq341
  have g_LL_341 : n0 ≤ LL_341 := Nat.le_trans ZZ323 P341_1
  have sz_LL_341 : h0.size ≤ LL_341 := Nat.le_trans KK324.1 P341_1
  have g_A_341 : n0 ≤ A_341 := Nat.le_trans ZZ323 P341_2
  have sz_A_341 : h0.size ≤ A_341 := Nat.le_trans KK324.1 P341_2
  have SK342 := Nat.le_trans SK322 P341_0.1
  have ZZ343 : n0 ≤ T341.heap.size := Nat.le_trans ZZ323 P341_0.1
  have KK344 : Keep h0 T341.heap [r0] := Keep.trans KK324 P341_0 all0
  have Fc345 := (((((((Fc225.keep P235_0).keep P259_0).keep P271_0).keep P283_0).keep P302_0).keep P321_0).keep P341_0)
  have nq346 : b111 ≠ it_271 := (Nat.ne_of_lt (Nat.lt_of_lt_of_le (P235_1.keep P259_0 (ninS nq226 nin0)).lt P271_1))
  have Fc347 := ((((((P235_1.keep P259_0 (ninS nq226 nin0)).keep P271_0 nin0).keep P283_0 (ninS nq346 nin0)).keep P302_0 (ninS nq346 nin0)).keep P321_0 (ninS nq346 nin0)).keep P341_0 nin0)
  have Fc348 := ((((((Fr240.keep P259_0 (ninS nq226 nin0)).keep P271_0 nin0).keep P283_0 (ninS nq346 nin0)).keep P302_0 (ninS nq346 nin0)).keep P321_0 (ninS nq346 nin0)).keep P341_0 nin0)
  have Fc349 := ((((((Fr241.keep P259_0 (ninS nq226 nin0)).keep P271_0 nin0).keep P283_0 (ninS nq346 nin0)).keep P302_0 (ninS nq346 nin0)).keep P321_0 (ninS nq346 nin0)).keep P341_0 nin0)
  have nq350 : el_120 ≠ it_271 := (Nat.ne_of_lt (Nat.lt_of_lt_of_le (Vr239.keep P259_0 (ninS nq231 nin0)).lt P271_1))
  have Fc351 := ((((((Vr239.keep P259_0 (ninS nq231 nin0)).keep P271_0 nin0).keep P283_0 (ninS nq350 nin0)).keep P302_0 (ninS nq350 nin0)).keep P321_0 (ninS nq350 nin0)).keep P341_0 nin0)
  have Fc352 := (((((((Fc234.keep P235_0).keep P259_0).keep P271_0).keep P283_0).keep P302_0).keep P321_0).keep P341_0)
  obtain ⟨_, T353, L353, X353, hQ353, st353⟩ := own_cI X341 hx hZ102 hw how102 (b := b111) (W := 0) (rm_a1n l Z a0 hw [] b111 LL_341 (1 : Int32) el_120 kel_120 (1 : Int32) (2 : Int32) 1 [(.ref LL_221), .null] T341.heap n0 ZZ343 Fc345 g_b111 g_el_120 Fc347 Fc348 Fc349 Fc351 Fc352 P120_7 (Ins.of_exa P341_3 (own_w hw 297 rfl)) (by decide) (⟨by decide, by decide⟩) (by decide) (Nat.le_of_ble_eq_true rfl)) (by decide) (by decide) (by decide) 296 rfl 50 rfl 51 rfl 52 rfl 53 rfl 54 rfl 55 rfl 56 rfl 57 rfl 6 rfl rfl Fc345 (g := (mkF m 196 #[oR r0, oR r1, oR r2, oI 3, oR b111, oR it_126, oR v1, oR it_271, oD d12, oV] [(.ref LL_341), (.ref b111)])) rfl (by rw [hml]; rfl) (argsL := [(.ref LL_341)]) (rest := []) (lenOf pd25 rfl) rfl (Nat.le_of_eq rfl) (hb hby d14_196) rfl (cN := 13) rfl (by decide) (sN := 53) rfl (by decide)
  obtain ⟨rfl, Nq353, P353_0, P353_1, P353_2, P353_3, P353_4⟩ := hQ353
  have N353 := Fr.app N341 Nq353
  have SK354 := Nat.le_trans SK342 P353_0.1
  have ZZ355 : n0 ≤ T353.heap.size := Nat.le_trans ZZ343 P353_0.1
  have KK356 : Keep h0 T353.heap [r0] := Keep.trans KK344 P353_0 (allS (Or.inr sz_b111) (allS (Or.inr sz_el_120) all0))
  have Vr357 : Arv Z T353.heap el_120 kel_120 (.object kOB) (2 : Int32) [(.ref LL_221), (.ref LL_341)] .null := P353_4
  have Fr358 : Fld Z T353.heap b111 kAL "size" "I" (.int 2) := (own_fi (by decide) P353_2)
  have Fr359 : Fld Z T353.heap b111 kABL "modCount" "I" (.int 2) := (own_fi (by decide) P353_3)
  have nq360 : it_126 ≠ it_271 := (Nat.ne_of_lt (Nat.lt_of_lt_of_le Fr263.lt P271_1))
  have Fc361 := ((((((Fr263.keep P271_0 nin0).keep P283_0 (ninS nq360 nin0)).keep P302_0 (ninS nq360 nin0)).keep P321_0 (ninS nq360 nin0)).keep P341_0 nin0).keep P353_0 (ninS (Ne.symm nq226) (ninS (Ne.symm nq231) nin0)))
  have Fc362 := ((((((P259_2.keep P271_0 nin0).keep P283_0 (ninS nq360 nin0)).keep P302_0 (ninS nq360 nin0)).keep P321_0 (ninS nq360 nin0)).keep P341_0 nin0).keep P353_0 (ninS (Ne.symm nq226) (ninS (Ne.symm nq231) nin0)))
  have Fc363 := ((((((P259_3.keep P271_0 nin0).keep P283_0 (ninS nq360 nin0)).keep P302_0 (ninS nq360 nin0)).keep P321_0 (ninS nq360 nin0)).keep P341_0 nin0).keep P353_0 (ninS (Ne.symm nq226) (ninS (Ne.symm nq231) nin0)))
  have Fc364 := ((((((P259_4.keep P271_0 nin0).keep P283_0 (ninS nq360 nin0)).keep P302_0 (ninS nq360 nin0)).keep P321_0 (ninS nq360 nin0)).keep P341_0 nin0).keep P353_0 (ninS (Ne.symm nq226) (ninS (Ne.symm nq231) nin0)))
  have Fc365 := (F_size_r2.keep KK356 (ninS nq117 nin0))
  have Fc367 := (((((((Fc249.keep P259_0).keep P271_0).keep P283_0).keep P302_0).keep P321_0).keep P341_0).keep P353_0)
  obtain ⟨_, T366, L366, X366, hQ366, st366⟩ := own_cI X353 hx hZ102 hw how102 (b := it_126) (W := 0) (rm_hn0 l Z a0 hw [] it_126 r2 (2 : Int32) (2 : Int32) (2 : Int32) (.int 1) T353.heap n0 ZZ355 Fc361 Fc362 Fc363 Fc364 Fc365 rfl) (by decide) (by decide) (by decide) 174 rfl 175 rfl 176 rfl 177 rfl 178 rfl 179 rfl 180 rfl 181 rfl 182 rfl 161 rfl rfl Fc367 (g := (mkF m 75 #[oR r0, oR r1, oR r2, oI 3, oR b111, oR it_126, oR v1, oR it_271, oD d12, oV] [(.ref it_126)])) rfl (by rw [hml]; rfl) (argsL := []) (rest := []) (lenOf pd15 rfl) rfl (Nat.le_of_eq rfl) (hb hby d14_75) rfl (cN := 13) rfl (by decide) (sN := 53) rfl (by decide)
  obtain ⟨rfl, Nq366, P366_0⟩ := hQ366
  have N366 := Fr.app N353 Nq366
  have Fc368 := ((((((((P221_3.keep P235_0).keep P259_0).keep P271_0).keep P283_0).keep P302_0).keep P321_0).keep P341_0).keep P353_0)
  obtain ⟨_, T369, L369, X369, hQ369, st369⟩ := own_cS X366 hx hZ102 hw how102 (W := 0) (rm_co2_2 l Z a0 hw [] b111 el_120 kel_120 LL_221 LL_341 mr T353.heap n0 ZZ355 (Fc345.keep P353_0) P353_1 Fr358 Vr357 (Fc352.keep P353_0) (Ins.of_exa Fc368 (own_w hw 297 rfl)) (Ins.of_exa (P341_3.keep P353_0) (own_w hw 297 rfl)) M_mr) (by decide) (by decide) (by decide) 213 rfl 214 rfl 215 rfl 216 rfl P366_0 (g := (mkF m 207 #[oR r0, oR r1, oR r2, oI 3, oR b111, oR it_126, oR v1, oR it_271, oD d12, oV] [(.ref b111)])) rfl (by rw [hml]; rfl) (argsL := [(.ref b111)]) (rest := []) (lenOf pd16 rfl) rfl (Nat.le_of_eq rfl) (hb hby d14_207) rfl (cN := 15) rfl (by decide) (sN := 57) rfl (by decide)
  obtain ⟨LL_369, rfl, Nq369, P369_0, P369_1, P369_2, P369_3, P369_4⟩ := hQ369
  have N369 := Fr.app N366 Nq369
  have g_LL_369 : n0 ≤ LL_369 := Nat.le_trans ZZ355 P369_1
  have sz_LL_369 : h0.size ≤ LL_369 := Nat.le_trans KK356.1 P369_1
  have SK370 := Nat.le_trans SK354 P369_0.1
  have ZZ371 : n0 ≤ T369.heap.size := Nat.le_trans ZZ355 P369_0.1
  have KK372 : Keep h0 T369.heap [r0] := Keep.trans KK356 P369_0 all0
  have Fc373 := (((Fc328.keep P341_0).keep P353_0).keep P369_0)
  have Fc374 := ((Fc345.keep P353_0).keep P369_0)
  have nq375 : r0 ≠ b111 := (ne_exa Fc373 Fc374 (by decide))
  have nq376 : r0 ≠ it_126 := (ne_exa Fc373 (Fc367.keep P369_0) (by decide))
  have Fc377 := ((((((((Fc253.keep P259_0).keep P271_0).keep P283_0).keep P302_0).keep P321_0).keep P341_0).keep P353_0).keep P369_0)
  have nq378 : r0 ≠ it_151 := (ne_exa Fc373 Fc377 (by decide))
  have Fc379 := ((Fc352.keep P353_0).keep P369_0)
  have nq380 : r0 ≠ el_120 := (ne_exa Fc373 Fc379 (by decide))
  have Fc381 := ((((Fc315.keep P321_0).keep P341_0).keep P353_0).keep P369_0)
  have nq382 : r0 ≠ it_271 := (ne_exa Fc373 Fc381 (by decide))
  have Fc383 := (((((((((((((((((((F_name_r0.ext E102).ext E111).keep P120_0 (ninS nq375 nin0)).keep P126_0 nin0).keep P140_0 (ninS nq376 nin0)).keep P151_0 nin0).keep P164_0 (ninS nq378 nin0)).keep P182_0 (ninS nq378 nin0)).keep P202_0 (ninS nq378 nin0)).keep P221_0 nin0).keep P235_0 (ninS nq375 (ninS nq380 nin0))).keep P259_0 (ninS nq376 nin0)).keep P271_0 nin0).keep P283_0 (ninS nq382 nin0)).keep P302_0 (ninS nq382 nin0)).keep P321_0 (ninS nq382 nin0)).keep P341_0 nin0).keep P353_0 (ninS nq375 (ninS nq380 nin0))).keep P369_0 nin0)
  obtain ⟨T384, h384, X384, e384, W384, st384⟩ := putF X369 hx hZ102 how102 (host := "") (Or.inl (own_w hw 314 rfl)) Via.refl rfl Fc383 Fc373 (Or.inr ⟨(own_w hw 315 rfl), rfl, hnm⟩) (own_w hw 86 rfl) (ty := (.object "java/lang/String")) (by decide) rfl rfl (g := (mkF m 213 #[oR r0, oR r1, oR LL_369, oI 3, oR b111, oR it_126, oR v1, oR it_271, oD d12, oV] [(.ref r1), (.ref r0)])) rfl rfl (hb hby d14_213)
  have Fw384 := Fc383.same W384
  have N384 := Fr.snoc X384 N369 g_r0
  have SK385 := Nat.le_trans SK370 (Nat.le_of_eq W384.size.symm)
  have ZZ386 : n0 ≤ h384.size := Nat.le_trans ZZ371 (Nat.le_of_eq W384.size.symm)
  have KK387 : Keep h0 h384 [r0] := KK372.wr W384 (Or.inl (List.mem_of_getElem? (i := 0) rfl))
  have Fc388 := ((((((((((((((((((((F_vectors_r0.ext E102).ext E111).keep P120_0 (ninS nq375 nin0)).keep P126_0 nin0).keep P140_0 (ninS nq376 nin0)).keep P151_0 nin0).keep P164_0 (ninS nq378 nin0)).keep P182_0 (ninS nq378 nin0)).keep P202_0 (ninS nq378 nin0)).keep P221_0 nin0).keep P235_0 (ninS nq375 (ninS nq380 nin0))).keep P259_0 (ninS nq376 nin0)).keep P271_0 nin0).keep P283_0 (ninS nq382 nin0)).keep P302_0 (ninS nq382 nin0)).keep P321_0 (ninS nq382 nin0)).keep P341_0 nin0).keep P353_0 (ninS nq375 (ninS nq380 nin0))).keep P369_0 nin0).other W384 (Or.inr (sn11 hw)))
  obtain ⟨T389, h389, X389, e389, W389, st389⟩ := putF X384 hx hZ102 how102 (host := "") (Or.inl (own_w hw 316 rfl)) Via.refl e384 Fc388 (Fc373.wr W384) (Or.inr ⟨(own_w hw 317 rfl), rfl, hnm⟩) (own_w hw 86 rfl) (ty := (.object "java/util/List")) (by decide) rfl rfl (g := (mkF m 218 #[oR r0, oR r1, oR LL_369, oI 3, oR b111, oR it_126, oR v1, oR it_271, oD d12, oV] [(.ref LL_369), (.ref r0)])) rfl rfl (hb hby d14_218)
  have Fw389 := Fc388.same W389
  have N389 := Fr.snoc X389 N384 g_r0
  have SK390 := Nat.le_trans SK385 (Nat.le_of_eq W389.size.symm)
  have ZZ391 : n0 ≤ h389.size := Nat.le_trans ZZ386 (Nat.le_of_eq W389.size.symm)
  have KK392 : Keep h0 h389 [r0] := KK387.wr W389 (Or.inl (List.mem_of_getElem? (i := 0) rfl))
  have Fc393 := ((P369_2.wr W384).wr W389)
  have Fc394 := ((Fc373.wr W384).wr W389)
  have nq395 : LL_369 ≠ r0 := (ne_exa Fc393 Fc394 (by decide))
  have nq396 : b111 ≠ LL_221 := (Nat.ne_of_lt (Nat.lt_of_lt_of_le ((((((P120_2.keep P126_0 nin0).keep P140_0 (ninS nq226 nin0)).keep P151_0 nin0).keep P164_0 (ninS nq227 nin0)).keep P182_0 (ninS nq227 nin0)).keep P202_0 (ninS nq227 nin0)).lt P221_1))
  have nq397 : el_120 ≠ LL_221 := (Nat.ne_of_lt (Nat.lt_of_lt_of_le ((((((P120_6.keep P126_0).keep P140_0).keep P151_0).keep P164_0).keep P182_0).keep P202_0).lt P221_1))
  have nq398 : it_126 ≠ LL_221 := (Nat.ne_of_lt (Nat.lt_of_lt_of_le ((((P140_1.keep P151_0 nin0).keep P164_0 (ninS nq242 nin0)).keep P182_0 (ninS nq242 nin0)).keep P202_0 (ninS nq242 nin0)).lt P221_1))
  have nq399 : LL_221 ≠ it_271 := (Nat.ne_of_lt (Nat.lt_of_lt_of_le ((P221_3.keep P235_0).keep P259_0).lt P271_1))
  have Fc400 := (((Fc368.keep P369_0).wr W384).wr W389)
  have nq401 : LL_221 ≠ r0 := (ne_exa Fc400 Fc394 (by decide))
  have nq402 : b111 ≠ A_221 := (Nat.ne_of_lt (Nat.lt_of_lt_of_le ((((((P120_2.keep P126_0 nin0).keep P140_0 (ninS nq226 nin0)).keep P151_0 nin0).keep P164_0 (ninS nq227 nin0)).keep P182_0 (ninS nq227 nin0)).keep P202_0 (ninS nq227 nin0)).lt P221_2))
  have nq403 : el_120 ≠ A_221 := (Nat.ne_of_lt (Nat.lt_of_lt_of_le ((((((P120_6.keep P126_0).keep P140_0).keep P151_0).keep P164_0).keep P182_0).keep P202_0).lt P221_2))
  have nq404 : it_126 ≠ A_221 := (Nat.ne_of_lt (Nat.lt_of_lt_of_le ((((P140_1.keep P151_0 nin0).keep P164_0 (ninS nq242 nin0)).keep P182_0 (ninS nq242 nin0)).keep P202_0 (ninS nq242 nin0)).lt P221_2))
  have nq405 : A_221 ≠ it_271 := (Nat.ne_of_lt (Nat.lt_of_lt_of_le ((P221_7.keep P235_0).keep P259_0).lt P271_1))
  have Fc406 := (((((((((((P221_7.keep P235_0).keep P259_0).keep P271_0).keep P283_0).keep P302_0).keep P321_0).keep P341_0).keep P353_0).keep P369_0).wr W384).wr W389)
  have nq407 : A_221 ≠ r0 := (ne_exa Fc406 Fc394 (by decide))
  have nq408 : b111 ≠ LL_341 := (Nat.ne_of_lt (Nat.lt_of_lt_of_le (((((P235_2.keep P259_0 (ninS nq226 nin0)).keep P271_0 nin0).keep P283_0 (ninS nq346 nin0)).keep P302_0 (ninS nq346 nin0)).keep P321_0 (ninS nq346 nin0)).lt P341_1))
  have nq409 : el_120 ≠ LL_341 := (Nat.ne_of_lt (Nat.lt_of_lt_of_le (((((P235_4.keep P259_0 (ninS nq231 nin0)).keep P271_0 nin0).keep P283_0 (ninS nq350 nin0)).keep P302_0 (ninS nq350 nin0)).keep P321_0 (ninS nq350 nin0)).lt P341_1))
  have Fc410 := ((((P341_3.keep P353_0).keep P369_0).wr W384).wr W389)
  have nq411 : LL_341 ≠ r0 := (ne_exa Fc410 Fc394 (by decide))
  have nq412 : b111 ≠ A_341 := (Nat.ne_of_lt (Nat.lt_of_lt_of_le (((((P235_2.keep P259_0 (ninS nq226 nin0)).keep P271_0 nin0).keep P283_0 (ninS nq346 nin0)).keep P302_0 (ninS nq346 nin0)).keep P321_0 (ninS nq346 nin0)).lt P341_2))
  have nq413 : el_120 ≠ A_341 := (Nat.ne_of_lt (Nat.lt_of_lt_of_le (((((P235_4.keep P259_0 (ninS nq231 nin0)).keep P271_0 nin0).keep P283_0 (ninS nq350 nin0)).keep P302_0 (ninS nq350 nin0)).keep P321_0 (ninS nq350 nin0)).lt P341_2))
  have Fc414 := ((((P341_7.keep P353_0).keep P369_0).wr W384).wr W389)
  have nq415 : A_341 ≠ r0 := (ne_exa Fc414 Fc394 (by decide))
  obtain ⟨fs, hr, hrun, hended, hREW⟩ := X389.leaveW hS102 (by rw [e389]; exact SK390) (v := none) (fun _ => rfl)
  refine ⟨_, _, pre0 _ ?_, hrun, hended, _, _, rfl, ?_, hREW.1, hREW.2.1, hREW.2.2.1, hREW.2.2.2.mono (by decide) (by decide)⟩
  · show own_S p e below s₁ m 0 #[oR r0, oR r1, oR r2, oU, oU, oU, oU, oU, oU, oU] [] _
    refine XS.aloadN X0.here hx rfl (hb hby d14_0) rfl rfl ?_
    show own_S p e below s₁ m 1 _ [(.ref r0)] _
    refine st101.trans ?_
    show own_S p e below T101 m 4 _ [] _
    refine XS.aloadN X101.here hx rfl (hb hby d14_4) rfl rfl ?_
    show own_S p e below T101 m 5 _ [(.ref r1)] _
    refine st102 _ ?_
    show own_S p e below T102 m 7 _ [(.ref b102), (.ref r1)] _
    refine st105.trans ?_
    show own_S p e below T105 m 10 _ [(.ref r1)] _
    refine XS.pop X105.here hx rfl (hb hby d14_10) rfl rfl ?_
    show own_S p e below T105 m 11 _ [] _
    refine XS.aloadN X105.here hx rfl (hb hby d14_11) rfl rfl ?_
    show own_S p e below T105 m 12 #[oR r0, oR r1, oR r2, oU, oU, oU, oU, oU, oU, oU] [(.ref r2)] _
    refine st106.trans ?_
    show own_S p e below T106 m 17 _ [(.int 0)] _
    refine XS.ifYes X106.here hx rfl (pc0 := 17) (pc' := 34) rfl (hb hby d14_17) rfl ((if0 _ _).trans (teq (by decide : (0 : Int32) = (0 : Int32))).1) (by decide) (by decide) ?_
    refine XS.aloadN X106.here hx rfl (hb hby d14_34) rfl rfl ?_
    refine XS.iconst X106.here hx rfl (hb hby d14_35) ?_
    show own_S p e below T106 m 36 _ [(.int 0), (.ref r2)] _
    refine st108.trans ?_
    show own_S p e below T108 m 41 _ [(.ref v0)] _
    refine st109 _ ?_
    show own_S p e below T109 m 44 _ [(.ref v0)] _
    refine st110.trans ?_
    show own_S p e below T110 m 49 #[oR r0, oR r1, oR r2, oU, oU, oU, oU, oU, oU, oU] [(.int 3)] _
    refine XS.istoreN X110.here hx rfl (hb hby d14_49) rfl (l' := #[oR r0, oR r1, oR r2, oI 3, oU, oU, oU, oU, oU, oU]) rfl ?_
    show own_S p e below T110 m 50 #[oR r0, oR r1, oR r2, oI 3, oU, oU, oU, oU, oU, oU] [] _
    refine st111 _ ?_
    show own_S p e below T111 m 53 _ [(.ref b111)] _
    refine XS.dup X111.here hx rfl (hb hby d14_53) rfl rfl ?_
    refine XS.aloadN X111.here hx rfl (hb hby d14_54) rfl rfl ?_
    show own_S p e below T111 m 55 _ [(.ref r2), (.ref b111), (.ref b111)] _
    refine st119.trans ?_
    show own_S p e below T119 m 60 _ [(.int 2), (.ref b111), (.ref b111)] _
    refine st120.trans ?_
    show own_S p e below T120 m 63 _ [(.ref b111)] _
    refine XS.astore X120.here hx rfl (hb hby d14_63) rfl rfl (l' := #[oR r0, oR r1, oR r2, oI 3, oR b111, oU, oU, oU, oU, oU]) rfl ?_
    refine XS.aloadN X120.here hx rfl (hb hby d14_65) rfl rfl ?_
    show own_S p e below T120 m 66 _ [(.ref r2)] _
    refine st126.trans ?_
    show own_S p e below T126 m 71 _ [(.ref it_126)] _
    refine XS.astore X126.here hx rfl (hb hby d14_71) rfl rfl (l' := #[oR r0, oR r1, oR r2, oI 3, oR b111, oR it_126, oU, oU, oU, oU]) rfl ?_
    refine XS.aload X126.here hx rfl (hb hby d14_73) rfl rfl ?_
    show own_S p e below T126 m 75 _ [(.ref it_126)] _
    refine st131.trans ?_
    show own_S p e below T131 m 80 _ [(.int 1)] _
    refine XS.ifNo X131.here hx rfl (hb hby d14_80) rfl ((if0 _ _).trans (feq (by decide : ¬ ((1 : Int32) = (0 : Int32)))).1) ?_
    refine XS.aload X131.here hx rfl (hb hby d14_83) rfl rfl ?_
    show own_S p e below T131 m 85 _ [(.ref it_126)] _
    refine st140.trans ?_
    show own_S p e below T140 m 90 _ [(.ref v0)] _
    refine st146 _ ?_
    show own_S p e below T146 m 93 _ [(.ref v0)] _
    refine XS.astore X146.here hx rfl (hb hby d14_93) rfl rfl (l' := #[oR r0, oR r1, oR r2, oI 3, oR b111, oR it_126, oR v0, oU, oU, oU]) rfl ?_
    refine XS.aload X146.here hx rfl (hb hby d14_95) rfl rfl ?_
    show own_S p e below T146 m 97 _ [(.ref v0)] _
    refine st149.trans ?_
    show own_S p e below T149 m 102 _ [(.int 3)] _
    refine XS.iloadN X149.here hx rfl (hb hby d14_102) rfl ?_
    refine XS.icmpYes X149.here hx rfl (pc0 := 103) (pc' := 128) rfl (hb hby d14_103) rfl (teq (by decide : (3 : Int32) = (3 : Int32))).1 (by decide) (by decide) ?_
    refine XS.aload X149.here hx rfl (hb hby d14_128) rfl rfl ?_
    show own_S p e below T149 m 130 _ [(.ref v0)] _
    refine st151.trans ?_
    show own_S p e below T151 m 135 _ [(.ref it_151)] _
    refine XS.astore X151.here hx rfl (hb hby d14_135) rfl rfl (l' := #[oR r0, oR r1, oR r2, oI 3, oR b111, oR it_126, oR v0, oR it_151, oU, oU]) rfl ?_
    refine XS.aload X151.here hx rfl (hb hby d14_137) rfl rfl ?_
    show own_S p e below T151 m 139 _ [(.ref it_151)] _
    refine st156.trans ?_
    show own_S p e below T156 m 144 _ [(.int 1)] _
    refine XS.ifNo X156.here hx rfl (hb hby d14_144) rfl ((if0 _ _).trans (feq (by decide : ¬ ((1 : Int32) = (0 : Int32)))).1) ?_
    refine XS.aload X156.here hx rfl (hb hby d14_147) rfl rfl ?_
    show own_S p e below T156 m 149 _ [(.ref it_151)] _
    refine st164.trans ?_
    show own_S p e below T164 m 154 _ [(.ref x00)] _
    refine st170 _ ?_
    show own_S p e below T170 m 157 _ [(.ref x00)] _
    refine st173.trans ?_
    show own_S p e below T173 m 160 #[oR r0, oR r1, oR r2, oI 3, oR b111, oR it_126, oR v0, oR it_151, oU, oU] [(.double d00)] _
    refine XS.dstore X173.here hx rfl (hb hby d14_160) rfl (l' := #[oR r0, oR r1, oR r2, oI 3, oR b111, oR it_126, oR v0, oR it_151, oD d00, oV]) rfl ?_
    refine XS.dload X173.here hx rfl (hb hby d14_162) rfl ?_
    show own_S p e below T173 m 164 _ [(.double d00)] _
    refine st174.trans ?_
    show own_S p e below T174 m 167 _ [(.int 1)] _
    refine XS.ifYes X174.here hx rfl (pc0 := 167) (pc' := 186) rfl (hb hby d14_167) rfl ((if0 _ _).trans (feq (by decide : ¬ ((1 : Int32) = (0 : Int32)))).2) (by decide) (by decide) ?_
    refine XS.goto X174.here hx rfl (pc0 := 186) (pc' := 137) rfl (hb hby d14_186) (by decide) (by decide) ?_
    refine XS.aload X174.here hx rfl (hb hby d14_137) rfl rfl ?_
    show own_S p e below T174 m 139 _ [(.ref it_151)] _
    refine st176.trans ?_
    show own_S p e below T176 m 144 _ [(.int 1)] _
    refine XS.ifNo X176.here hx rfl (hb hby d14_144) rfl ((if0 _ _).trans (feq (by decide : ¬ ((1 : Int32) = (0 : Int32)))).1) ?_
    refine XS.aload X176.here hx rfl (hb hby d14_147) rfl rfl ?_
    show own_S p e below T176 m 149 _ [(.ref it_151)] _
    refine st182.trans ?_
    show own_S p e below T182 m 154 _ [(.ref x01)] _
    refine st188 _ ?_
    show own_S p e below T188 m 157 _ [(.ref x01)] _
    refine st192.trans ?_
    show own_S p e below T192 m 160 _ [(.double d01)] _
    refine XS.dstore X192.here hx rfl (hb hby d14_160) rfl (l' := #[oR r0, oR r1, oR r2, oI 3, oR b111, oR it_126, oR v0, oR it_151, oD d01, oV]) rfl ?_
    refine XS.dload X192.here hx rfl (hb hby d14_162) rfl ?_
    show own_S p e below T192 m 164 _ [(.double d01)] _
    refine st193.trans ?_
    show own_S p e below T193 m 167 _ [(.int 1)] _
    refine XS.ifYes X193.here hx rfl (pc0 := 167) (pc' := 186) rfl (hb hby d14_167) rfl ((if0 _ _).trans (feq (by decide : ¬ ((1 : Int32) = (0 : Int32)))).2) (by decide) (by decide) ?_
    refine XS.goto X193.here hx rfl (pc0 := 186) (pc' := 137) rfl (hb hby d14_186) (by decide) (by decide) ?_
    refine XS.aload X193.here hx rfl (hb hby d14_137) rfl rfl ?_
    show own_S p e below T193 m 139 _ [(.ref it_151)] _
    refine st195.trans ?_
    show own_S p e below T195 m 144 _ [(.int 1)] _
    refine XS.ifNo X195.here hx rfl (hb hby d14_144) rfl ((if0 _ _).trans (feq (by decide : ¬ ((1 : Int32) = (0 : Int32)))).1) ?_
    refine XS.aload X195.here hx rfl (hb hby d14_147) rfl rfl ?_
    show own_S p e below T195 m 149 _ [(.ref it_151)] _
    refine st202.trans ?_
    show own_S p e below T202 m 154 _ [(.ref x02)] _
    refine st208 _ ?_
    show own_S p e below T208 m 157 _ [(.ref x02)] _
    refine st211.trans ?_
    show own_S p e below T211 m 160 _ [(.double d02)] _
    refine XS.dstore X211.here hx rfl (hb hby d14_160) rfl (l' := #[oR r0, oR r1, oR r2, oI 3, oR b111, oR it_126, oR v0, oR it_151, oD d02, oV]) rfl ?_
    refine XS.dload X211.here hx rfl (hb hby d14_162) rfl ?_
    show own_S p e below T211 m 164 _ [(.double d02)] _
    refine st212.trans ?_
    show own_S p e below T212 m 167 _ [(.int 1)] _
    refine XS.ifYes X212.here hx rfl (pc0 := 167) (pc' := 186) rfl (hb hby d14_167) rfl ((if0 _ _).trans (feq (by decide : ¬ ((1 : Int32) = (0 : Int32)))).2) (by decide) (by decide) ?_
    refine XS.goto X212.here hx rfl (pc0 := 186) (pc' := 137) rfl (hb hby d14_186) (by decide) (by decide) ?_
    refine XS.aload X212.here hx rfl (hb hby d14_137) rfl rfl ?_
    show own_S p e below T212 m 139 _ [(.ref it_151)] _
    refine st214.trans ?_
    show own_S p e below T214 m 144 _ [(.int 0)] _
    refine XS.ifYes X214.here hx rfl (pc0 := 144) (pc' := 189) rfl (hb hby d14_144) rfl ((if0 _ _).trans (teq (by decide : (0 : Int32) = (0 : Int32))).1) (by decide) (by decide) ?_
    refine XS.aload X214.here hx rfl (hb hby d14_189) rfl rfl ?_
    refine XS.aload X214.here hx rfl (hb hby d14_191) rfl rfl ?_
    show own_S p e below T214 m 193 _ [(.ref v0), (.ref b111)] _
    refine st221.trans ?_
    show own_S p e below T221 m 196 _ [(.ref LL_221), (.ref b111)] _
    refine st235.trans ?_
    show own_S p e below T235 m 201 _ [(.int 1)] _
    refine XS.pop X235.here hx rfl (hb hby d14_201) rfl rfl ?_
    show own_S p e below T235 m 202 _ [] _
    refine XS.goto X235.here hx rfl (pc0 := 202) (pc' := 73) rfl (hb hby d14_202) (by decide) (by decide) ?_
    refine XS.aload X235.here hx rfl (hb hby d14_73) rfl rfl ?_
    show own_S p e below T235 m 75 #[oR r0, oR r1, oR r2, oI 3, oR b111, oR it_126, oR v0, oR it_151, oD d02, oV] [(.ref it_126)] _
    refine st248.trans ?_
    show own_S p e below T248 m 80 _ [(.int 1)] _
    refine XS.ifNo X248.here hx rfl (hb hby d14_80) rfl ((if0 _ _).trans (feq (by decide : ¬ ((1 : Int32) = (0 : Int32)))).1) ?_
    refine XS.aload X248.here hx rfl (hb hby d14_83) rfl rfl ?_
    show own_S p e below T248 m 85 _ [(.ref it_126)] _
    refine st259.trans ?_
    show own_S p e below T259 m 90 _ [(.ref v1)] _
    refine st265 _ ?_
    show own_S p e below T265 m 93 _ [(.ref v1)] _
    refine XS.astore X265.here hx rfl (hb hby d14_93) rfl rfl (l' := #[oR r0, oR r1, oR r2, oI 3, oR b111, oR it_126, oR v1, oR it_151, oD d02, oV]) rfl ?_
    refine XS.aload X265.here hx rfl (hb hby d14_95) rfl rfl ?_
    show own_S p e below T265 m 97 _ [(.ref v1)] _
    refine st269.trans ?_
    show own_S p e below T269 m 102 _ [(.int 3)] _
    refine XS.iloadN X269.here hx rfl (hb hby d14_102) rfl ?_
    refine XS.icmpYes X269.here hx rfl (pc0 := 103) (pc' := 128) rfl (hb hby d14_103) rfl (teq (by decide : (3 : Int32) = (3 : Int32))).1 (by decide) (by decide) ?_
    refine XS.aload X269.here hx rfl (hb hby d14_128) rfl rfl ?_
    show own_S p e below T269 m 130 _ [(.ref v1)] _
    refine st271.trans ?_
    show own_S p e below T271 m 135 _ [(.ref it_271)] _
    refine XS.astore X271.here hx rfl (hb hby d14_135) rfl rfl (l' := #[oR r0, oR r1, oR r2, oI 3, oR b111, oR it_126, oR v1, oR it_271, oD d02, oV]) rfl ?_
    refine XS.aload X271.here hx rfl (hb hby d14_137) rfl rfl ?_
    show own_S p e below T271 m 139 _ [(.ref it_271)] _
    refine st276.trans ?_
    show own_S p e below T276 m 144 _ [(.int 1)] _
    refine XS.ifNo X276.here hx rfl (hb hby d14_144) rfl ((if0 _ _).trans (feq (by decide : ¬ ((1 : Int32) = (0 : Int32)))).1) ?_
    refine XS.aload X276.here hx rfl (hb hby d14_147) rfl rfl ?_
    show own_S p e below T276 m 149 _ [(.ref it_271)] _
    refine st283.trans ?_
    show own_S p e below T283 m 154 _ [(.ref x10)] _
    refine st289 _ ?_
    show own_S p e below T289 m 157 _ [(.ref x10)] _
    refine st293.trans ?_
    show own_S p e below T293 m 160 #[oR r0, oR r1, oR r2, oI 3, oR b111, oR it_126, oR v1, oR it_271, oD d02, oV] [(.double d10)] _
    refine XS.dstore X293.here hx rfl (hb hby d14_160) rfl (l' := #[oR r0, oR r1, oR r2, oI 3, oR b111, oR it_126, oR v1, oR it_271, oD d10, oV]) rfl ?_
    refine XS.dload X293.here hx rfl (hb hby d14_162) rfl ?_
    show own_S p e below T293 m 164 _ [(.double d10)] _
    refine st294.trans ?_
    show own_S p e below T294 m 167 _ [(.int 1)] _
    refine XS.ifYes X294.here hx rfl (pc0 := 167) (pc' := 186) rfl (hb hby d14_167) rfl ((if0 _ _).trans (feq (by decide : ¬ ((1 : Int32) = (0 : Int32)))).2) (by decide) (by decide) ?_
    refine XS.goto X294.here hx rfl (pc0 := 186) (pc' := 137) rfl (hb hby d14_186) (by decide) (by decide) ?_
    refine XS.aload X294.here hx rfl (hb hby d14_137) rfl rfl ?_
    show own_S p e below T294 m 139 _ [(.ref it_271)] _
    refine st296.trans ?_
    show own_S p e below T296 m 144 _ [(.int 1)] _
    refine XS.ifNo X296.here hx rfl (hb hby d14_144) rfl ((if0 _ _).trans (feq (by decide : ¬ ((1 : Int32) = (0 : Int32)))).1) ?_
    refine XS.aload X296.here hx rfl (hb hby d14_147) rfl rfl ?_
    show own_S p e below T296 m 149 _ [(.ref it_271)] _
    refine st302.trans ?_
    show own_S p e below T302 m 154 _ [(.ref x11)] _
    refine st308 _ ?_
    show own_S p e below T308 m 157 _ [(.ref x11)] _
    refine st311.trans ?_
    show own_S p e below T311 m 160 _ [(.double d11)] _
    refine XS.dstore X311.here hx rfl (hb hby d14_160) rfl (l' := #[oR r0, oR r1, oR r2, oI 3, oR b111, oR it_126, oR v1, oR it_271, oD d11, oV]) rfl ?_
    refine XS.dload X311.here hx rfl (hb hby d14_162) rfl ?_
    show own_S p e below T311 m 164 _ [(.double d11)] _
    refine st312.trans ?_
    show own_S p e below T312 m 167 _ [(.int 1)] _
    refine XS.ifYes X312.here hx rfl (pc0 := 167) (pc' := 186) rfl (hb hby d14_167) rfl ((if0 _ _).trans (feq (by decide : ¬ ((1 : Int32) = (0 : Int32)))).2) (by decide) (by decide) ?_
    refine XS.goto X312.here hx rfl (pc0 := 186) (pc' := 137) rfl (hb hby d14_186) (by decide) (by decide) ?_
    refine XS.aload X312.here hx rfl (hb hby d14_137) rfl rfl ?_
    show own_S p e below T312 m 139 _ [(.ref it_271)] _
    refine st314.trans ?_
    show own_S p e below T314 m 144 _ [(.int 1)] _
    refine XS.ifNo X314.here hx rfl (hb hby d14_144) rfl ((if0 _ _).trans (feq (by decide : ¬ ((1 : Int32) = (0 : Int32)))).1) ?_
    refine XS.aload X314.here hx rfl (hb hby d14_147) rfl rfl ?_
    show own_S p e below T314 m 149 _ [(.ref it_271)] _
    refine st321.trans ?_
    show own_S p e below T321 m 154 _ [(.ref x12)] _
    refine st327 _ ?_
    show own_S p e below T327 m 157 _ [(.ref x12)] _
    refine st331.trans ?_
    show own_S p e below T331 m 160 _ [(.double d12)] _
    refine XS.dstore X331.here hx rfl (hb hby d14_160) rfl (l' := #[oR r0, oR r1, oR r2, oI 3, oR b111, oR it_126, oR v1, oR it_271, oD d12, oV]) rfl ?_
    refine XS.dload X331.here hx rfl (hb hby d14_162) rfl ?_
    show own_S p e below T331 m 164 _ [(.double d12)] _
    refine st332.trans ?_
    show own_S p e below T332 m 167 _ [(.int 1)] _
    refine XS.ifYes X332.here hx rfl (pc0 := 167) (pc' := 186) rfl (hb hby d14_167) rfl ((if0 _ _).trans (feq (by decide : ¬ ((1 : Int32) = (0 : Int32)))).2) (by decide) (by decide) ?_
    refine XS.goto X332.here hx rfl (pc0 := 186) (pc' := 137) rfl (hb hby d14_186) (by decide) (by decide) ?_
    refine XS.aload X332.here hx rfl (hb hby d14_137) rfl rfl ?_
    show own_S p e below T332 m 139 _ [(.ref it_271)] _
    refine st334.trans ?_
    show own_S p e below T334 m 144 _ [(.int 0)] _
    refine XS.ifYes X334.here hx rfl (pc0 := 144) (pc' := 189) rfl (hb hby d14_144) rfl ((if0 _ _).trans (teq (by decide : (0 : Int32) = (0 : Int32))).1) (by decide) (by decide) ?_
    refine XS.aload X334.here hx rfl (hb hby d14_189) rfl rfl ?_
    refine XS.aload X334.here hx rfl (hb hby d14_191) rfl rfl ?_
    show own_S p e below T334 m 193 _ [(.ref v1), (.ref b111)] _
    refine st341.trans ?_
    show own_S p e below T341 m 196 _ [(.ref LL_341), (.ref b111)] _
    refine st353.trans ?_
    show own_S p e below T353 m 201 _ [(.int 1)] _
    refine XS.pop X353.here hx rfl (hb hby d14_201) rfl rfl ?_
    show own_S p e below T353 m 202 _ [] _
    refine XS.goto X353.here hx rfl (pc0 := 202) (pc' := 73) rfl (hb hby d14_202) (by decide) (by decide) ?_
    refine XS.aload X353.here hx rfl (hb hby d14_73) rfl rfl ?_
    show own_S p e below T353 m 75 #[oR r0, oR r1, oR r2, oI 3, oR b111, oR it_126, oR v1, oR it_271, oD d12, oV] [(.ref it_126)] _
    refine st366.trans ?_
    show own_S p e below T366 m 80 _ [(.int 0)] _
    refine XS.ifYes X366.here hx rfl (pc0 := 80) (pc' := 205) rfl (hb hby d14_80) rfl ((if0 _ _).trans (teq (by decide : (0 : Int32) = (0 : Int32))).1) (by decide) (by decide) ?_
    refine XS.aload X366.here hx rfl (hb hby d14_205) rfl rfl ?_
    show own_S p e below T366 m 207 _ [(.ref b111)] _
    refine st369.trans ?_
    show own_S p e below T369 m 210 _ [(.ref LL_369)] _
    refine XS.astoreN X369.here hx rfl (hb hby d14_210) rfl rfl (l' := #[oR r0, oR r1, oR LL_369, oI 3, oR b111, oR it_126, oR v1, oR it_271, oD d12, oV]) rfl ?_
    refine XS.aloadN X369.here hx rfl (hb hby d14_211) rfl rfl ?_
    refine XS.aloadN X369.here hx rfl (hb hby d14_212) rfl rfl ?_
    show own_S p e below T369 m 213 _ [(.ref r1), (.ref r0)] _
    refine st384 _ ?_
    show own_S p e below T384 m 216 _ [] _
    refine XS.aloadN X384.here hx rfl (hb hby d14_216) rfl rfl ?_
    refine XS.aloadN X384.here hx rfl (hb hby d14_217) rfl rfl ?_
    show own_S p e below T384 m 218 _ [(.ref LL_369), (.ref r0)] _
    refine st389 _ ?_
    show own_S p e below T389 m 221 _ [] _
    exact X389.returnOut hx Bd.returns (hb hby d14_221) hr
  · show Qm14 Z r0 r1 r2 w0 w1 el v0 v1 el0 el1 x00 x01 x02 x10 x11 x12 kel kel0 kel1 d00 d01 d02 d10 d11 d12 mr h0 n0 _ T389.heap _
    rw [e389]
    exact ⟨LL_369, LL_221, LL_341, A_221, A_341, kA_221, kA_341, rfl, N389, KK392, sz_LL_369, sz_LL_221, sz_LL_341, sz_A_221, sz_A_341, (Fw384.other W389 (Or.inr (Ne.symm (sn11 hw)))), Fw389, ((P369_2.wr W384).wr W389), ((P369_3.other W384 (Or.inl nq395)).other W389 (Or.inl nq395)), ((P369_4.other W384 (Or.inl nq395)).other W389 (Or.inl nq395)), (((Fc368.keep P369_0).wr W384).wr W389), (((((((((((P221_4.keep P235_0 (ninS (Ne.symm nq396) (ninS (Ne.symm nq397) nin0))).keep P259_0 (ninS (Ne.symm nq398) nin0)).keep P271_0 nin0).keep P283_0 (ninS nq399 nin0)).keep P302_0 (ninS nq399 nin0)).keep P321_0 (ninS nq399 nin0)).keep P341_0 nin0).keep P353_0 (ninS (Ne.symm nq396) (ninS (Ne.symm nq397) nin0))).keep P369_0 nin0).other W384 (Or.inl nq401)).other W389 (Or.inl nq401)), (((((((((((P221_5.keep P235_0 (ninS (Ne.symm nq396) (ninS (Ne.symm nq397) nin0))).keep P259_0 (ninS (Ne.symm nq398) nin0)).keep P271_0 nin0).keep P283_0 (ninS nq399 nin0)).keep P302_0 (ninS nq399 nin0)).keep P321_0 (ninS nq399 nin0)).keep P341_0 nin0).keep P353_0 (ninS (Ne.symm nq396) (ninS (Ne.symm nq397) nin0))).keep P369_0 nin0).other W384 (Or.inl nq401)).other W389 (Or.inl nq401)), (((((((((((P221_6.keep P235_0 (ninS (Ne.symm nq402) (ninS (Ne.symm nq403) nin0))).keep P259_0 (ninS (Ne.symm nq404) nin0)).keep P271_0 nin0).keep P283_0 (ninS nq405 nin0)).keep P302_0 (ninS nq405 nin0)).keep P321_0 (ninS nq405 nin0)).keep P341_0 nin0).keep P353_0 (ninS (Ne.symm nq402) (ninS (Ne.symm nq403) nin0))).keep P369_0 nin0).other W384 nq407).other W389 nq407), Fc406, ((((P341_3.keep P353_0).keep P369_0).wr W384).wr W389), ((((P341_4.keep P353_0 (ninS (Ne.symm nq408) (ninS (Ne.symm nq409) nin0))).keep P369_0 nin0).other W384 (Or.inl nq411)).other W389 (Or.inl nq411)), ((((P341_5.keep P353_0 (ninS (Ne.symm nq408) (ninS (Ne.symm nq409) nin0))).keep P369_0 nin0).other W384 (Or.inl nq411)).other W389 (Or.inl nq411)), ((((P341_6.keep P353_0 (ninS (Ne.symm nq412) (ninS (Ne.symm nq413) nin0))).keep P369_0 nin0).other W384 nq415).other W389 nq415), Fc414⟩
theorem d47_0 : decode k47 0 = .ok (.aload_n 0, 1) := by decide +kernel
theorem d47_1 : decode k47 1 = .ok (.getfield 24, 3) := by decide +kernel
theorem d47_4 : decode k47 4 = .ok (.getstatic 19, 3) := by decide +kernel
theorem d47_7 : decode k47 7 = .ok (.if_acmp .eq 7, 3) := by decide +kernel
theorem d47_10 : decode k47 10 = .ok (.iconst 2, 1) := by decide +kernel
theorem d47_11 : decode k47 11 = .ok (.goto 4, 3) := by decide +kernel
theorem d47_15 : decode k47 15 = .ok (.ireturn, 1) := by decide +kernel
theorem efm47 (m : MethodId) (r0 : Addr) : entryFrame m #[(.ref r0)] 1 = mkF m 0 #[oR r0] [] := by first | (simp [entryFrame, mkF, argsToLocals, Value.category]; done) | rfl
def Qm47 (Z : State) (r0 : Addr) (x0 : Addr) (x1 : Addr) (em : Addr) (h0 : Heap) (n0 : Nat) (v : Option Value) (h : Heap) (L : List Loc) : Prop := v = some (.int 2) ∧ Fr n0 L ∧ (h = h0)
set_option maxRecDepth 65536 in
set_option maxHeartbeats 40000000 in
theorem rmm47 (l : Launch) (Z : State) (a0 : Array Value) (hw : own_HW Z a0) (ws : List Jvm.Cond) (r0 : Addr) (x0 : Addr) (x1 : Addr) (em : Addr) (h0 : Heap) (n0 : Nat) (Z0 : n0 ≤ h0.size) (F_e0_r0 : Fld Z h0 r0 kL12 "e0" "Ljava/lang/Object;" (.ref x0)) (F_e1_r0 : Fld Z h0 r0 kL12 "e1" "Ljava/lang/Object;" (.ref x1)) (hOld : Old Z n0 h0) (S_EMPTY : Sta Z Z.heap "java/util/ImmutableCollections" "EMPTY" "Ljava/lang/Object;" (.ref em)) (E_em : Exa Z Z.heap em kOB) (ne_x1_em : x1 ≠ em) :
    MetFree l (⟨kL12, "size", "()I"⟩ : MethodName) (head1 (Jvm.Cond.code (⟨kL12, "size", "()I"⟩ : MethodName) jdk_44_method_3_code 1 (some .int) :: ws) ({ frames := 0, cells := 0, slots := 0, locals := 0 } : Room)) (fun a U => a = #[(.ref r0)] ∧ Z.Warmed39 U.vm ∧ U.heap = h0) (fun _ _ _ _ _ => True) (fun _ U o U' => ∃ v L, o = .returned v ∧ Qm47 Z r0 x0 x1 em h0 n0 v U'.heap L ∧ FrameEnd U o U' L ({ frames := 0, cells := 0, slots := 0, locals := 0 } : Room).cells ({ frames := 0, cells := 0, slots := 0, locals := 0 } : Room).slots) := by
  refine MetFree.of_bodySF (plainFor_of_name pn10) hisR ?_
  intro p e s m args below meth c s₁ Bd hml0 hP hK
  obtain ⟨rfl, hZ, hh⟩ := hP
  have hx := Bd.exec
  have hby := Bd.bytes
  have hml : c.maxLocals = 1 := hml0
  have hown : s.vm.findClass kL12 = some m.cls := findClass_of_methodNamed Bd.named
  have hnm := (name_of_methodNamed Bd.named Bd.method).1
  have X0 : Stand p l e ({ frames := 0, cells := 0, slots := 0, locals := 0 } : Room) s m #[(.ref r0)] below meth c s₁ [] 0 0 := Stand.of_body Bd
  have e0 : s₁.heap = h0 := by rw [← hh, Bd.state]; rfl
  have N0 := Fr.nil n0
  have pre0 : ∀ t, Steps p.tables e below (s₁.setTop (mkF m 0 #[oR r0] [])) t → Steps p.tables e below (s₁.setTop (entryFrame m #[(.ref r0)] 1)) t := fun t k => castTop (efm47 m r0) k
  obtain ⟨T101, X101, e101, st101⟩ := getF X0 hx hZ hown (host := "") (Or.inl (own_w hw 312 rfl)) Via.refl e0 F_e1_r0 (g := (mkF m 1 #[oR r0] [(.ref r0)])) rfl rfl (hb hby d47_1)
  have Fz102 := (S_EMPTY.ext hOld.2)
  obtain ⟨T103, X103, e103, st103⟩ := getS2 X101 hx hZ hown (Or.inr (own_w hw 344 rfl)) Via.refl e101 Fz102 (g := (mkF m 4 #[oR r0] [(.ref x1)])) rfl (hb hby d47_4)
  obtain ⟨fs, hr, hrun, hended, hW, hsame⟩ := X103.leave (v := some (.int 2)) (fun h => by rw [Bd.returns] at h; cases h)
  refine ⟨_, _, pre0 _ ?_, hrun, hended, _, _, rfl, ?_, ⟨_, rfl⟩, hW, hsame.mono (by decide) (by decide)⟩
  · show own_S p e below s₁ m 0 #[oR r0] [] _
    refine XS.aloadN X0.here hx rfl (hb hby d47_0) rfl rfl ?_
    show own_S p e below s₁ m 1 _ [(.ref r0)] _
    refine st101 _ ?_
    show own_S p e below T101 m 4 _ [(.ref x1)] _
    refine st103 _ ?_
    show own_S p e below T103 m 7 _ [(.ref em), (.ref x1)] _
    refine Jvm.RoadKit.acmp (g := (mkF m 7 #[oR r0] [(.ref em), (.ref x1)])) X103 hx rfl rfl rfl (pc0 := 7) (pc' := 10) (same := false) rfl (hb hby d47_7) rfl (decide_eq_false fun q => ne_x1_em (Value.ref.inj q)) (by decide) (by decide) ?_
    show own_S p e below T103 m 10 _ [] _
    refine XS.iconst X103.here hx rfl (hb hby d47_10) ?_
    refine XS.goto X103.here hx rfl (pc0 := 11) (pc' := 15) rfl (hb hby d47_11) (by decide) (by decide) ?_
    show own_S p e below T103 m 15 _ [(.int 2)] _
    exact retOut X103 hx Bd.returns rfl (Or.inl ⟨rfl, Or.inl rfl, _, rfl⟩) (hb hby d47_15) hr
  · show Qm47 Z r0 x0 x1 em h0 n0 _ T103.heap _
    rw [e103]
    exact ⟨rfl, N0, rfl⟩
theorem d48_0 : decode k48 0 = .ok (.iload_n 1, 1) := by decide +kernel
theorem d48_1 : decode k48 1 = .ok (.ifCond .ne 8, 3) := by decide +kernel
theorem d48_4 : decode k48 4 = .ok (.aload_n 0, 1) := by decide +kernel
theorem d48_5 : decode k48 5 = .ok (.getfield 13, 3) := by decide +kernel
theorem d48_8 : decode k48 8 = .ok (.areturn, 1) := by decide +kernel
theorem ef_g12_0 (m : MethodId) (r0 : Addr) : entryFrame m #[(.ref r0), (.int 0)] 2 = mkF m 0 #[oR r0, oI 0] [] := by first | (simp [entryFrame, mkF, argsToLocals, Value.category]; done) | rfl
def Q_g12_0 (Z : State) (r0 : Addr) (x0 : Addr) (x1 : Addr) (em : Addr) (h0 : Heap) (n0 : Nat) (v : Option Value) (h : Heap) (L : List Loc) : Prop := v = some (.ref x0) ∧ Fr n0 L ∧ (h = h0)
set_option maxRecDepth 65536 in
set_option maxHeartbeats 40000000 in
theorem rm_g12_0 (l : Launch) (Z : State) (a0 : Array Value) (hw : own_HW Z a0) (ws : List Jvm.Cond) (r0 : Addr) (x0 : Addr) (x1 : Addr) (em : Addr) (h0 : Heap) (n0 : Nat) (Z0 : n0 ≤ h0.size) (F_e0_r0 : Fld Z h0 r0 kL12 "e0" "Ljava/lang/Object;" (.ref x0)) (F_e1_r0 : Fld Z h0 r0 kL12 "e1" "Ljava/lang/Object;" (.ref x1)) (hOld : Old Z n0 h0) (S_EMPTY : Sta Z Z.heap "java/util/ImmutableCollections" "EMPTY" "Ljava/lang/Object;" (.ref em)) (E_em : Exa Z Z.heap em kOB) (ne_x1_em : x1 ≠ em) :
    MetFree l (⟨kL12, "get", "(I)Ljava/lang/Object;"⟩ : MethodName) (head1 (Jvm.Cond.code (⟨kL12, "get", "(I)Ljava/lang/Object;"⟩ : MethodName) jdk_44_method_5_code 2 (some (.object kOB)) :: ws) ({ frames := 0, cells := 0, slots := 0, locals := 0 } : Room)) (fun a U => a = #[(.ref r0), (.int 0)] ∧ Z.Warmed39 U.vm ∧ U.heap = h0) (fun _ _ _ _ _ => True) (fun _ U o U' => ∃ v L, o = .returned v ∧ Q_g12_0 Z r0 x0 x1 em h0 n0 v U'.heap L ∧ FrameEnd U o U' L ({ frames := 0, cells := 0, slots := 0, locals := 0 } : Room).cells ({ frames := 0, cells := 0, slots := 0, locals := 0 } : Room).slots) := by
  refine MetFree.of_bodySF (plainFor_of_name pn10) hisR ?_
  intro p e s m args below meth c s₁ Bd hml0 hP hK
  obtain ⟨rfl, hZ, hh⟩ := hP
  have hx := Bd.exec
  have hby := Bd.bytes
  have hml : c.maxLocals = 2 := hml0
  have hown : s.vm.findClass kL12 = some m.cls := findClass_of_methodNamed Bd.named
  have hnm := (name_of_methodNamed Bd.named Bd.method).1
  have X0 : Stand p l e ({ frames := 0, cells := 0, slots := 0, locals := 0 } : Room) s m #[(.ref r0), (.int 0)] below meth c s₁ [] 0 0 := Stand.of_body Bd
  have e0 : s₁.heap = h0 := by rw [← hh, Bd.state]; rfl
  have N0 := Fr.nil n0
  have pre0 : ∀ t, Steps p.tables e below (s₁.setTop (mkF m 0 #[oR r0, oI 0] [])) t → Steps p.tables e below (s₁.setTop (entryFrame m #[(.ref r0), (.int 0)] 2)) t := fun t k => castTop (ef_g12_0 m r0) k
  obtain ⟨T101, X101, e101, st101⟩ := getF X0 hx hZ hown (host := "") (Or.inl (own_w hw 310 rfl)) Via.refl e0 F_e0_r0 (g := (mkF m 5 #[oR r0, oI 0] [(.ref r0)])) rfl rfl (hb hby d48_5)
  obtain ⟨fs, hr, hrun, hended, hW, hsame⟩ := X101.leave (v := some (.ref x0)) (fun h => by rw [Bd.returns] at h; cases h)
  refine ⟨_, _, pre0 _ ?_, hrun, hended, _, _, rfl, ?_, ⟨_, rfl⟩, hW, hsame.mono (by decide) (by decide)⟩
  · show own_S p e below s₁ m 0 #[oR r0, oI 0] [] _
    refine XS.iloadN X0.here hx rfl (hb hby d48_0) rfl ?_
    refine XS.ifNo X0.here hx rfl (hb hby d48_1) rfl ((if0 _ _).trans (teq (by decide : (0 : Int32) = (0 : Int32))).2) ?_
    refine XS.aloadN X0.here hx rfl (hb hby d48_4) rfl rfl ?_
    show own_S p e below s₁ m 5 _ [(.ref r0)] _
    refine st101 _ ?_
    show own_S p e below T101 m 8 _ [(.ref x0)] _
    exact retOut X101 hx Bd.returns rfl (Or.inr (Or.inr (Or.inr (Or.inr ⟨rfl, rfl, rfl⟩)))) (hb hby d48_8) hr
  · show Q_g12_0 Z r0 x0 x1 em h0 n0 _ T101.heap _
    rw [e101]
    exact ⟨rfl, N0, rfl⟩
theorem d48_9 : decode k48 9 = .ok (.iload_n 1, 1) := by decide +kernel
theorem d48_10 : decode k48 10 = .ok (.iconst 1, 1) := by decide +kernel
theorem d48_11 : decode k48 11 = .ok (.if_icmp .ne 18, 3) := by decide +kernel
theorem d48_14 : decode k48 14 = .ok (.aload_n 0, 1) := by decide +kernel
theorem d48_15 : decode k48 15 = .ok (.getfield 24, 3) := by decide +kernel
theorem d48_18 : decode k48 18 = .ok (.getstatic 19, 3) := by decide +kernel
theorem d48_21 : decode k48 21 = .ok (.if_acmp .eq 8, 3) := by decide +kernel
theorem d48_24 : decode k48 24 = .ok (.aload_n 0, 1) := by decide +kernel
theorem d48_25 : decode k48 25 = .ok (.getfield 24, 3) := by decide +kernel
theorem d48_28 : decode k48 28 = .ok (.areturn, 1) := by decide +kernel
theorem ef_g12_1 (m : MethodId) (r0 : Addr) : entryFrame m #[(.ref r0), (.int 1)] 2 = mkF m 0 #[oR r0, oI 1] [] := by first | (simp [entryFrame, mkF, argsToLocals, Value.category]; done) | rfl
def Q_g12_1 (Z : State) (r0 : Addr) (x0 : Addr) (x1 : Addr) (em : Addr) (h0 : Heap) (n0 : Nat) (v : Option Value) (h : Heap) (L : List Loc) : Prop := v = some (.ref x1) ∧ Fr n0 L ∧ (h = h0)
set_option maxRecDepth 65536 in
set_option maxHeartbeats 40000000 in
theorem rm_g12_1 (l : Launch) (Z : State) (a0 : Array Value) (hw : own_HW Z a0) (ws : List Jvm.Cond) (r0 : Addr) (x0 : Addr) (x1 : Addr) (em : Addr) (h0 : Heap) (n0 : Nat) (Z0 : n0 ≤ h0.size) (F_e0_r0 : Fld Z h0 r0 kL12 "e0" "Ljava/lang/Object;" (.ref x0)) (F_e1_r0 : Fld Z h0 r0 kL12 "e1" "Ljava/lang/Object;" (.ref x1)) (hOld : Old Z n0 h0) (S_EMPTY : Sta Z Z.heap "java/util/ImmutableCollections" "EMPTY" "Ljava/lang/Object;" (.ref em)) (E_em : Exa Z Z.heap em kOB) (ne_x1_em : x1 ≠ em) :
    MetFree l (⟨kL12, "get", "(I)Ljava/lang/Object;"⟩ : MethodName) (head1 (Jvm.Cond.code (⟨kL12, "get", "(I)Ljava/lang/Object;"⟩ : MethodName) jdk_44_method_5_code 2 (some (.object kOB)) :: ws) ({ frames := 0, cells := 0, slots := 0, locals := 0 } : Room)) (fun a U => a = #[(.ref r0), (.int 1)] ∧ Z.Warmed39 U.vm ∧ U.heap = h0) (fun _ _ _ _ _ => True) (fun _ U o U' => ∃ v L, o = .returned v ∧ Q_g12_1 Z r0 x0 x1 em h0 n0 v U'.heap L ∧ FrameEnd U o U' L ({ frames := 0, cells := 0, slots := 0, locals := 0 } : Room).cells ({ frames := 0, cells := 0, slots := 0, locals := 0 } : Room).slots) := by
  refine MetFree.of_bodySF (plainFor_of_name pn10) hisR ?_
  intro p e s m args below meth c s₁ Bd hml0 hP hK
  obtain ⟨rfl, hZ, hh⟩ := hP
  have hx := Bd.exec
  have hby := Bd.bytes
  have hml : c.maxLocals = 2 := hml0
  have hown : s.vm.findClass kL12 = some m.cls := findClass_of_methodNamed Bd.named
  have hnm := (name_of_methodNamed Bd.named Bd.method).1
  have X0 : Stand p l e ({ frames := 0, cells := 0, slots := 0, locals := 0 } : Room) s m #[(.ref r0), (.int 1)] below meth c s₁ [] 0 0 := Stand.of_body Bd
  have e0 : s₁.heap = h0 := by rw [← hh, Bd.state]; rfl
  have N0 := Fr.nil n0
  have pre0 : ∀ t, Steps p.tables e below (s₁.setTop (mkF m 0 #[oR r0, oI 1] [])) t → Steps p.tables e below (s₁.setTop (entryFrame m #[(.ref r0), (.int 1)] 2)) t := fun t k => castTop (ef_g12_1 m r0) k
  obtain ⟨T101, X101, e101, st101⟩ := getF X0 hx hZ hown (host := "") (Or.inl (own_w hw 312 rfl)) Via.refl e0 F_e1_r0 (g := (mkF m 15 #[oR r0, oI 1] [(.ref r0)])) rfl rfl (hb hby d48_15)
  have Fz102 := (S_EMPTY.ext hOld.2)
  obtain ⟨T103, X103, e103, st103⟩ := getS2 X101 hx hZ hown (Or.inr (own_w hw 344 rfl)) Via.refl e101 Fz102 (g := (mkF m 18 #[oR r0, oI 1] [(.ref x1)])) rfl (hb hby d48_18)
  obtain ⟨T104, X104, e104, st104⟩ := getF X103 hx hZ hown (host := "") (Or.inl (own_w hw 312 rfl)) Via.refl e103 F_e1_r0 (g := (mkF m 25 #[oR r0, oI 1] [(.ref r0)])) rfl rfl (hb hby d48_25)
  obtain ⟨fs, hr, hrun, hended, hW, hsame⟩ := X104.leave (v := some (.ref x1)) (fun h => by rw [Bd.returns] at h; cases h)
  refine ⟨_, _, pre0 _ ?_, hrun, hended, _, _, rfl, ?_, ⟨_, rfl⟩, hW, hsame.mono (by decide) (by decide)⟩
  · show own_S p e below s₁ m 0 #[oR r0, oI 1] [] _
    refine XS.iloadN X0.here hx rfl (hb hby d48_0) rfl ?_
    refine XS.ifYes X0.here hx rfl (pc0 := 1) (pc' := 9) rfl (hb hby d48_1) rfl ((if0 _ _).trans (feq (by decide : ¬ ((1 : Int32) = (0 : Int32)))).2) (by decide) (by decide) ?_
    refine XS.iloadN X0.here hx rfl (hb hby d48_9) rfl ?_
    refine XS.iconst X0.here hx rfl (hb hby d48_10) ?_
    show own_S p e below s₁ m 11 _ [(.int 1), (.int 1)] _
    refine XS.icmpNo X0.here hx rfl (hb hby d48_11) rfl (teq (by decide : (1 : Int32) = (1 : Int32))).2 ?_
    refine XS.aloadN X0.here hx rfl (hb hby d48_14) rfl rfl ?_
    show own_S p e below s₁ m 15 _ [(.ref r0)] _
    refine st101 _ ?_
    show own_S p e below T101 m 18 #[oR r0, oI 1] [(.ref x1)] _
    refine st103 _ ?_
    show own_S p e below T103 m 21 _ [(.ref em), (.ref x1)] _
    refine Jvm.RoadKit.acmp (g := (mkF m 21 #[oR r0, oI 1] [(.ref em), (.ref x1)])) X103 hx rfl rfl rfl (pc0 := 21) (pc' := 24) (same := false) rfl (hb hby d48_21) rfl (decide_eq_false fun q => ne_x1_em (Value.ref.inj q)) (by decide) (by decide) ?_
    show own_S p e below T103 m 24 _ [] _
    refine XS.aloadN X103.here hx rfl (hb hby d48_24) rfl rfl ?_
    show own_S p e below T103 m 25 _ [(.ref r0)] _
    refine st104 _ ?_
    show own_S p e below T104 m 28 _ [(.ref x1)] _
    exact retOut X104 hx Bd.returns rfl (Or.inr (Or.inr (Or.inr (Or.inr ⟨rfl, rfl, rfl⟩)))) (hb hby d48_28) hr
  · show Q_g12_1 Z r0 x0 x1 em h0 n0 _ T104.heap _
    rw [e104]
    exact ⟨rfl, N0, rfl⟩
theorem d49_0 : decode k49 0 = .ok (.aload_n 0, 1) := by decide +kernel
theorem d49_1 : decode k49 1 = .ok (.getfield 7, 3) := by decide +kernel
theorem d49_4 : decode k49 4 = .ok (.arraylength, 1) := by decide +kernel
theorem d49_5 : decode k49 5 = .ok (.ireturn, 1) := by decide +kernel
theorem efm49 (m : MethodId) (r0 : Addr) : entryFrame m #[(.ref r0)] 1 = mkF m 0 #[oR r0] [] := by first | (simp [entryFrame, mkF, argsToLocals, Value.category]; done) | rfl
def Qm49 (Z : State) (r0 : Addr) (A : Addr) (x0 : Addr) (x1 : Addr) (x2 : Addr) (kA : ClassId) (wa : Value) (h0 : Heap) (n0 : Nat) (v : Option Value) (h : Heap) (L : List Loc) : Prop := v = some (.int 3) ∧ Fr n0 L ∧ (h = h0)
set_option maxRecDepth 65536 in
set_option maxHeartbeats 40000000 in
theorem rmm49 (l : Launch) (Z : State) (a0 : Array Value) (hw : own_HW Z a0) (ws : List Jvm.Cond) (r0 : Addr) (A : Addr) (x0 : Addr) (x1 : Addr) (x2 : Addr) (kA : ClassId) (wa : Value) (h0 : Heap) (n0 : Nat) (Z0 : n0 ≤ h0.size) (F_elements_r0 : Fld Z h0 r0 kLN "elements" kOA (.ref A)) (F_allowNulls_r0 : Fld Z h0 r0 kLN "allowNulls" "Z" wa) (V_A : Arv Z h0 A kA (.object kOB) (3 : Int32) [(.ref x0), (.ref x1), (.ref x2)] .null) :
    MetFree l (⟨kLN, "size", "()I"⟩ : MethodName) (head1 (Jvm.Cond.code (⟨kLN, "size", "()I"⟩ : MethodName) jdk_45_method_3_code 1 (some .int) :: ws) ({ frames := 0, cells := 0, slots := 0, locals := 0 } : Room)) (fun a U => a = #[(.ref r0)] ∧ Z.Warmed39 U.vm ∧ U.heap = h0) (fun _ _ _ _ _ => True) (fun _ U o U' => ∃ v L, o = .returned v ∧ Qm49 Z r0 A x0 x1 x2 kA wa h0 n0 v U'.heap L ∧ FrameEnd U o U' L ({ frames := 0, cells := 0, slots := 0, locals := 0 } : Room).cells ({ frames := 0, cells := 0, slots := 0, locals := 0 } : Room).slots) := by
  refine MetFree.of_bodySF (plainFor_of_name pn11) hisR ?_
  intro p e s m args below meth c s₁ Bd hml0 hP hK
  obtain ⟨rfl, hZ, hh⟩ := hP
  have hx := Bd.exec
  have hby := Bd.bytes
  have hml : c.maxLocals = 1 := hml0
  have hown : s.vm.findClass kLN = some m.cls := findClass_of_methodNamed Bd.named
  have hnm := (name_of_methodNamed Bd.named Bd.method).1
  have X0 : Stand p l e ({ frames := 0, cells := 0, slots := 0, locals := 0 } : Room) s m #[(.ref r0)] below meth c s₁ [] 0 0 := Stand.of_body Bd
  have e0 : s₁.heap = h0 := by rw [← hh, Bd.state]; rfl
  have N0 := Fr.nil n0
  have pre0 : ∀ t, Steps p.tables e below (s₁.setTop (mkF m 0 #[oR r0] [])) t → Steps p.tables e below (s₁.setTop (entryFrame m #[(.ref r0)] 1)) t := fun t k => castTop (efm49 m r0) k
  obtain ⟨T101, X101, e101, st101⟩ := getF X0 hx hZ hown (host := "") (Or.inl (own_w hw 292 rfl)) Via.refl e0 F_elements_r0 (g := (mkF m 1 #[oR r0] [(.ref r0)])) rfl rfl (hb hby d49_1)
  obtain ⟨cl102, Ar102, qk102, Sz102, Nz102, Hh102, Gg102⟩ := id V_A
  obtain ⟨fs, hr, hrun, hended, hW, hsame⟩ := X101.leave (v := some (.int 3)) (fun h => by rw [Bd.returns] at h; cases h)
  refine ⟨_, _, pre0 _ ?_, hrun, hended, _, _, rfl, ?_, ⟨_, rfl⟩, hW, hsame.mono (by decide) (by decide)⟩
  · show own_S p e below s₁ m 0 #[oR r0] [] _
    refine XS.aloadN X0.here hx rfl (hb hby d49_0) rfl rfl ?_
    show own_S p e below s₁ m 1 _ [(.ref r0)] _
    refine st101 _ ?_
    show own_S p e below T101 m 4 _ [(.ref A)] _
    refine X101.arraylength hx (by rw [e101]; exact Ar102.1) (State.isArrayOf_alike hZ.alike Ar102.2.1) (g := (mkF m 4 #[oR r0] [(.ref A)])) rfl rfl (hb hby d49_4) _ ?_
    rw [len_of Sz102 Nz102]
    show own_S p e below T101 m 5 _ [(.int 3)] _
    exact retOut X101 hx Bd.returns rfl (Or.inl ⟨rfl, Or.inl rfl, _, rfl⟩) (hb hby d49_5) hr
  · show Qm49 Z r0 A x0 x1 x2 kA wa h0 n0 _ T101.heap _
    rw [e101]
    exact ⟨rfl, N0, rfl⟩
theorem d55_0 : decode k55 0 = .ok (.aload_n 0, 1) := by decide +kernel
theorem d55_1 : decode k55 1 = .ok (.getfield 7, 3) := by decide +kernel
theorem d55_4 : decode k55 4 = .ok (.iload_n 1, 1) := by decide +kernel
theorem d55_5 : decode k55 5 = .ok (.aaload, 1) := by decide +kernel
theorem d55_6 : decode k55 6 = .ok (.areturn, 1) := by decide +kernel
theorem ef_gN_0 (m : MethodId) (r0 : Addr) : entryFrame m #[(.ref r0), (.int 0)] 2 = mkF m 0 #[oR r0, oI 0] [] := by first | (simp [entryFrame, mkF, argsToLocals, Value.category]; done) | rfl
def Q_gN_0 (Z : State) (r0 : Addr) (A : Addr) (x0 : Addr) (x1 : Addr) (x2 : Addr) (kA : ClassId) (wa : Value) (h0 : Heap) (n0 : Nat) (v : Option Value) (h : Heap) (L : List Loc) : Prop := v = some (.ref x0) ∧ Fr n0 L ∧ (h = h0)
set_option maxRecDepth 65536 in
set_option maxHeartbeats 40000000 in
theorem rm_gN_0 (l : Launch) (Z : State) (a0 : Array Value) (hw : own_HW Z a0) (ws : List Jvm.Cond) (r0 : Addr) (A : Addr) (x0 : Addr) (x1 : Addr) (x2 : Addr) (kA : ClassId) (wa : Value) (h0 : Heap) (n0 : Nat) (Z0 : n0 ≤ h0.size) (F_elements_r0 : Fld Z h0 r0 kLN "elements" kOA (.ref A)) (F_allowNulls_r0 : Fld Z h0 r0 kLN "allowNulls" "Z" wa) (V_A : Arv Z h0 A kA (.object kOB) (3 : Int32) [(.ref x0), (.ref x1), (.ref x2)] .null) :
    MetFree l (⟨kLN, "get", "(I)Ljava/lang/Object;"⟩ : MethodName) (head1 (Jvm.Cond.code (⟨kLN, "get", "(I)Ljava/lang/Object;"⟩ : MethodName) jdk_45_method_4_code 2 (some (.object kOB)) :: ws) ({ frames := 0, cells := 0, slots := 0, locals := 0 } : Room)) (fun a U => a = #[(.ref r0), (.int 0)] ∧ Z.Warmed39 U.vm ∧ U.heap = h0) (fun _ _ _ _ _ => True) (fun _ U o U' => ∃ v L, o = .returned v ∧ Q_gN_0 Z r0 A x0 x1 x2 kA wa h0 n0 v U'.heap L ∧ FrameEnd U o U' L ({ frames := 0, cells := 0, slots := 0, locals := 0 } : Room).cells ({ frames := 0, cells := 0, slots := 0, locals := 0 } : Room).slots) := by
  refine MetFree.of_bodySF (plainFor_of_name pn11) hisR ?_
  intro p e s m args below meth c s₁ Bd hml0 hP hK
  obtain ⟨rfl, hZ, hh⟩ := hP
  have hx := Bd.exec
  have hby := Bd.bytes
  have hml : c.maxLocals = 2 := hml0
  have hown : s.vm.findClass kLN = some m.cls := findClass_of_methodNamed Bd.named
  have hnm := (name_of_methodNamed Bd.named Bd.method).1
  have X0 : Stand p l e ({ frames := 0, cells := 0, slots := 0, locals := 0 } : Room) s m #[(.ref r0), (.int 0)] below meth c s₁ [] 0 0 := Stand.of_body Bd
  have e0 : s₁.heap = h0 := by rw [← hh, Bd.state]; rfl
  have N0 := Fr.nil n0
  have pre0 : ∀ t, Steps p.tables e below (s₁.setTop (mkF m 0 #[oR r0, oI 0] [])) t → Steps p.tables e below (s₁.setTop (entryFrame m #[(.ref r0), (.int 0)] 2)) t := fun t k => castTop (ef_gN_0 m r0) k
  obtain ⟨T101, X101, e101, st101⟩ := getF X0 hx hZ hown (host := "") (Or.inl (own_w hw 292 rfl)) Via.refl e0 F_elements_r0 (g := (mkF m 1 #[oR r0, oI 0] [(.ref r0)])) rfl rfl (hb hby d55_1)
  obtain ⟨cl102, Ar102, qk102, Sz102, Nz102, Hh102, Gg102⟩ := id V_A
  have hin103 : ¬ ((0 : Int32) < 0 ∨ cl102.slots.size ≤ ((0 : Int32)).toNatClampNeg) := inb_of Sz102 ⟨by decide, by decide⟩
  have hat103 : cl102.slots[((0 : Int32)).toNatClampNeg]? = some (.ref x0) := Has.at Hh102 hin103 rfl
  obtain ⟨fs, hr, hrun, hended, hW, hsame⟩ := X101.leave (v := some (.ref x0)) (fun h => by rw [Bd.returns] at h; cases h)
  refine ⟨_, _, pre0 _ ?_, hrun, hended, _, _, rfl, ?_, ⟨_, rfl⟩, hW, hsame.mono (by decide) (by decide)⟩
  · show own_S p e below s₁ m 0 #[oR r0, oI 0] [] _
    refine XS.aloadN X0.here hx rfl (hb hby d55_0) rfl rfl ?_
    show own_S p e below s₁ m 1 _ [(.ref r0)] _
    refine st101 _ ?_
    show own_S p e below T101 m 4 _ [(.ref A)] _
    refine XS.iloadN X101.here hx rfl (hb hby d55_4) rfl ?_
    show own_S p e below T101 m 5 _ [(.int 0), (.ref A)] _
    refine X101.aaload hx (j := (0 : Int32)) (v := (.ref x0)) (by rw [e101]; exact Ar102.1) (State.isArrayOf_alike hZ.alike Ar102.2.1) rfl Ar102.2.2 hin103 hat103 (g := (mkF m 5 #[oR r0, oI 0] [(.int 0), (.ref A)])) rfl rfl (hb hby d55_5) _ ?_
    show own_S p e below T101 m 6 _ [(.ref x0)] _
    exact retOut X101 hx Bd.returns rfl (Or.inr (Or.inr (Or.inr (Or.inr ⟨rfl, rfl, rfl⟩)))) (hb hby d55_6) hr
  · show Q_gN_0 Z r0 A x0 x1 x2 kA wa h0 n0 _ T101.heap _
    rw [e101]
    exact ⟨rfl, N0, rfl⟩
theorem ef_gN_1 (m : MethodId) (r0 : Addr) : entryFrame m #[(.ref r0), (.int 1)] 2 = mkF m 0 #[oR r0, oI 1] [] := by first | (simp [entryFrame, mkF, argsToLocals, Value.category]; done) | rfl
def Q_gN_1 (Z : State) (r0 : Addr) (A : Addr) (x0 : Addr) (x1 : Addr) (x2 : Addr) (kA : ClassId) (wa : Value) (h0 : Heap) (n0 : Nat) (v : Option Value) (h : Heap) (L : List Loc) : Prop := v = some (.ref x1) ∧ Fr n0 L ∧ (h = h0)
set_option maxRecDepth 65536 in
set_option maxHeartbeats 40000000 in
theorem rm_gN_1 (l : Launch) (Z : State) (a0 : Array Value) (hw : own_HW Z a0) (ws : List Jvm.Cond) (r0 : Addr) (A : Addr) (x0 : Addr) (x1 : Addr) (x2 : Addr) (kA : ClassId) (wa : Value) (h0 : Heap) (n0 : Nat) (Z0 : n0 ≤ h0.size) (F_elements_r0 : Fld Z h0 r0 kLN "elements" kOA (.ref A)) (F_allowNulls_r0 : Fld Z h0 r0 kLN "allowNulls" "Z" wa) (V_A : Arv Z h0 A kA (.object kOB) (3 : Int32) [(.ref x0), (.ref x1), (.ref x2)] .null) :
    MetFree l (⟨kLN, "get", "(I)Ljava/lang/Object;"⟩ : MethodName) (head1 (Jvm.Cond.code (⟨kLN, "get", "(I)Ljava/lang/Object;"⟩ : MethodName) jdk_45_method_4_code 2 (some (.object kOB)) :: ws) ({ frames := 0, cells := 0, slots := 0, locals := 0 } : Room)) (fun a U => a = #[(.ref r0), (.int 1)] ∧ Z.Warmed39 U.vm ∧ U.heap = h0) (fun _ _ _ _ _ => True) (fun _ U o U' => ∃ v L, o = .returned v ∧ Q_gN_1 Z r0 A x0 x1 x2 kA wa h0 n0 v U'.heap L ∧ FrameEnd U o U' L ({ frames := 0, cells := 0, slots := 0, locals := 0 } : Room).cells ({ frames := 0, cells := 0, slots := 0, locals := 0 } : Room).slots) := by
  refine MetFree.of_bodySF (plainFor_of_name pn11) hisR ?_
  intro p e s m args below meth c s₁ Bd hml0 hP hK
  obtain ⟨rfl, hZ, hh⟩ := hP
  have hx := Bd.exec
  have hby := Bd.bytes
  have hml : c.maxLocals = 2 := hml0
  have hown : s.vm.findClass kLN = some m.cls := findClass_of_methodNamed Bd.named
  have hnm := (name_of_methodNamed Bd.named Bd.method).1
  have X0 : Stand p l e ({ frames := 0, cells := 0, slots := 0, locals := 0 } : Room) s m #[(.ref r0), (.int 1)] below meth c s₁ [] 0 0 := Stand.of_body Bd
  have e0 : s₁.heap = h0 := by rw [← hh, Bd.state]; rfl
  have N0 := Fr.nil n0
  have pre0 : ∀ t, Steps p.tables e below (s₁.setTop (mkF m 0 #[oR r0, oI 1] [])) t → Steps p.tables e below (s₁.setTop (entryFrame m #[(.ref r0), (.int 1)] 2)) t := fun t k => castTop (ef_gN_1 m r0) k
  obtain ⟨T101, X101, e101, st101⟩ := getF X0 hx hZ hown (host := "") (Or.inl (own_w hw 292 rfl)) Via.refl e0 F_elements_r0 (g := (mkF m 1 #[oR r0, oI 1] [(.ref r0)])) rfl rfl (hb hby d55_1)
  obtain ⟨cl102, Ar102, qk102, Sz102, Nz102, Hh102, Gg102⟩ := id V_A
  have hin103 : ¬ ((1 : Int32) < 0 ∨ cl102.slots.size ≤ ((1 : Int32)).toNatClampNeg) := inb_of Sz102 ⟨by decide, by decide⟩
  have hat103 : cl102.slots[((1 : Int32)).toNatClampNeg]? = some (.ref x1) := Has.at Hh102 hin103 rfl
  obtain ⟨fs, hr, hrun, hended, hW, hsame⟩ := X101.leave (v := some (.ref x1)) (fun h => by rw [Bd.returns] at h; cases h)
  refine ⟨_, _, pre0 _ ?_, hrun, hended, _, _, rfl, ?_, ⟨_, rfl⟩, hW, hsame.mono (by decide) (by decide)⟩
  · show own_S p e below s₁ m 0 #[oR r0, oI 1] [] _
    refine XS.aloadN X0.here hx rfl (hb hby d55_0) rfl rfl ?_
    show own_S p e below s₁ m 1 _ [(.ref r0)] _
    refine st101 _ ?_
    show own_S p e below T101 m 4 _ [(.ref A)] _
    refine XS.iloadN X101.here hx rfl (hb hby d55_4) rfl ?_
    show own_S p e below T101 m 5 _ [(.int 1), (.ref A)] _
    refine X101.aaload hx (j := (1 : Int32)) (v := (.ref x1)) (by rw [e101]; exact Ar102.1) (State.isArrayOf_alike hZ.alike Ar102.2.1) rfl Ar102.2.2 hin103 hat103 (g := (mkF m 5 #[oR r0, oI 1] [(.int 1), (.ref A)])) rfl rfl (hb hby d55_5) _ ?_
    show own_S p e below T101 m 6 _ [(.ref x1)] _
    exact retOut X101 hx Bd.returns rfl (Or.inr (Or.inr (Or.inr (Or.inr ⟨rfl, rfl, rfl⟩)))) (hb hby d55_6) hr
  · show Q_gN_1 Z r0 A x0 x1 x2 kA wa h0 n0 _ T101.heap _
    rw [e101]
    exact ⟨rfl, N0, rfl⟩
theorem ef_gN_2 (m : MethodId) (r0 : Addr) : entryFrame m #[(.ref r0), (.int 2)] 2 = mkF m 0 #[oR r0, oI 2] [] := by first | (simp [entryFrame, mkF, argsToLocals, Value.category]; done) | rfl
def Q_gN_2 (Z : State) (r0 : Addr) (A : Addr) (x0 : Addr) (x1 : Addr) (x2 : Addr) (kA : ClassId) (wa : Value) (h0 : Heap) (n0 : Nat) (v : Option Value) (h : Heap) (L : List Loc) : Prop := v = some (.ref x2) ∧ Fr n0 L ∧ (h = h0)
set_option maxRecDepth 65536 in
set_option maxHeartbeats 40000000 in
theorem rm_gN_2 (l : Launch) (Z : State) (a0 : Array Value) (hw : own_HW Z a0) (ws : List Jvm.Cond) (r0 : Addr) (A : Addr) (x0 : Addr) (x1 : Addr) (x2 : Addr) (kA : ClassId) (wa : Value) (h0 : Heap) (n0 : Nat) (Z0 : n0 ≤ h0.size) (F_elements_r0 : Fld Z h0 r0 kLN "elements" kOA (.ref A)) (F_allowNulls_r0 : Fld Z h0 r0 kLN "allowNulls" "Z" wa) (V_A : Arv Z h0 A kA (.object kOB) (3 : Int32) [(.ref x0), (.ref x1), (.ref x2)] .null) :
    MetFree l (⟨kLN, "get", "(I)Ljava/lang/Object;"⟩ : MethodName) (head1 (Jvm.Cond.code (⟨kLN, "get", "(I)Ljava/lang/Object;"⟩ : MethodName) jdk_45_method_4_code 2 (some (.object kOB)) :: ws) ({ frames := 0, cells := 0, slots := 0, locals := 0 } : Room)) (fun a U => a = #[(.ref r0), (.int 2)] ∧ Z.Warmed39 U.vm ∧ U.heap = h0) (fun _ _ _ _ _ => True) (fun _ U o U' => ∃ v L, o = .returned v ∧ Q_gN_2 Z r0 A x0 x1 x2 kA wa h0 n0 v U'.heap L ∧ FrameEnd U o U' L ({ frames := 0, cells := 0, slots := 0, locals := 0 } : Room).cells ({ frames := 0, cells := 0, slots := 0, locals := 0 } : Room).slots) := by
  refine MetFree.of_bodySF (plainFor_of_name pn11) hisR ?_
  intro p e s m args below meth c s₁ Bd hml0 hP hK
  obtain ⟨rfl, hZ, hh⟩ := hP
  have hx := Bd.exec
  have hby := Bd.bytes
  have hml : c.maxLocals = 2 := hml0
  have hown : s.vm.findClass kLN = some m.cls := findClass_of_methodNamed Bd.named
  have hnm := (name_of_methodNamed Bd.named Bd.method).1
  have X0 : Stand p l e ({ frames := 0, cells := 0, slots := 0, locals := 0 } : Room) s m #[(.ref r0), (.int 2)] below meth c s₁ [] 0 0 := Stand.of_body Bd
  have e0 : s₁.heap = h0 := by rw [← hh, Bd.state]; rfl
  have N0 := Fr.nil n0
  have pre0 : ∀ t, Steps p.tables e below (s₁.setTop (mkF m 0 #[oR r0, oI 2] [])) t → Steps p.tables e below (s₁.setTop (entryFrame m #[(.ref r0), (.int 2)] 2)) t := fun t k => castTop (ef_gN_2 m r0) k
  obtain ⟨T101, X101, e101, st101⟩ := getF X0 hx hZ hown (host := "") (Or.inl (own_w hw 292 rfl)) Via.refl e0 F_elements_r0 (g := (mkF m 1 #[oR r0, oI 2] [(.ref r0)])) rfl rfl (hb hby d55_1)
  obtain ⟨cl102, Ar102, qk102, Sz102, Nz102, Hh102, Gg102⟩ := id V_A
  have hin103 : ¬ ((2 : Int32) < 0 ∨ cl102.slots.size ≤ ((2 : Int32)).toNatClampNeg) := inb_of Sz102 ⟨by decide, by decide⟩
  have hat103 : cl102.slots[((2 : Int32)).toNatClampNeg]? = some (.ref x2) := Has.at Hh102 hin103 rfl
  obtain ⟨fs, hr, hrun, hended, hW, hsame⟩ := X101.leave (v := some (.ref x2)) (fun h => by rw [Bd.returns] at h; cases h)
  refine ⟨_, _, pre0 _ ?_, hrun, hended, _, _, rfl, ?_, ⟨_, rfl⟩, hW, hsame.mono (by decide) (by decide)⟩
  · show own_S p e below s₁ m 0 #[oR r0, oI 2] [] _
    refine XS.aloadN X0.here hx rfl (hb hby d55_0) rfl rfl ?_
    show own_S p e below s₁ m 1 _ [(.ref r0)] _
    refine st101 _ ?_
    show own_S p e below T101 m 4 _ [(.ref A)] _
    refine XS.iloadN X101.here hx rfl (hb hby d55_4) rfl ?_
    show own_S p e below T101 m 5 _ [(.int 2), (.ref A)] _
    refine X101.aaload hx (j := (2 : Int32)) (v := (.ref x2)) (by rw [e101]; exact Ar102.1) (State.isArrayOf_alike hZ.alike Ar102.2.1) rfl Ar102.2.2 hin103 hat103 (g := (mkF m 5 #[oR r0, oI 2] [(.int 2), (.ref A)])) rfl rfl (hb hby d55_5) _ ?_
    show own_S p e below T101 m 6 _ [(.ref x2)] _
    exact retOut X101 hx Bd.returns rfl (Or.inr (Or.inr (Or.inr (Or.inr ⟨rfl, rfl, rfl⟩)))) (hb hby d55_6) hr
  · show Q_gN_2 Z r0 A x0 x1 x2 kA wa h0 n0 _ T101.heap _
    rw [e101]
    exact ⟨rfl, N0, rfl⟩
theorem sn12 {Z : State} {a0 : Array Value} (hw : own_HW Z a0) : Jvm.RoadKit.slotOf Z kLIT "size" "I" ≠ Jvm.RoadKit.slotOf Z kLIT "list" "Ljava/util/List;" := slot_ne (Or.inr (own_w hw 392 rfl)) (Or.inr (own_w hw 390 rfl)) (by decide) (t := .int) (t' := (.object "java/util/List")) (by decide) (by decide)
theorem sn13 {Z : State} {a0 : Array Value} (hw : own_HW Z a0) : Jvm.RoadKit.slotOf Z kLIT "cursor" "I" ≠ Jvm.RoadKit.slotOf Z kLIT "list" "Ljava/util/List;" := slot_ne (Or.inl (own_w hw 394 rfl)) (Or.inr (own_w hw 390 rfl)) (by decide) (t := .int) (t' := (.object "java/util/List")) (by decide) (by decide)
theorem sn14 {Z : State} {a0 : Array Value} (hw : own_HW Z a0) : Jvm.RoadKit.slotOf Z kLIT "cursor" "I" ≠ Jvm.RoadKit.slotOf Z kLIT "size" "I" := slot_ne (Or.inl (own_w hw 394 rfl)) (Or.inr (own_w hw 392 rfl)) (by decide) (t := .int) (t' := .int) (by decide) (by decide)
theorem sn15 {Z : State} {a0 : Array Value} (hw : own_HW Z a0) : Jvm.RoadKit.slotOf Z kLIT "isListIterator" "Z" ≠ Jvm.RoadKit.slotOf Z kLIT "list" "Ljava/util/List;" := slot_ne (Or.inr (own_w hw 396 rfl)) (Or.inr (own_w hw 390 rfl)) (by decide) (t := .boolean) (t' := (.object "java/util/List")) (by decide) (by decide)
theorem sn16 {Z : State} {a0 : Array Value} (hw : own_HW Z a0) : Jvm.RoadKit.slotOf Z kLIT "isListIterator" "Z" ≠ Jvm.RoadKit.slotOf Z kLIT "size" "I" := slot_ne (Or.inr (own_w hw 396 rfl)) (Or.inr (own_w hw 392 rfl)) (by decide) (t := .boolean) (t' := .int) (by decide) (by decide)
theorem sn17 {Z : State} {a0 : Array Value} (hw : own_HW Z a0) : Jvm.RoadKit.slotOf Z kLIT "isListIterator" "Z" ≠ Jvm.RoadKit.slotOf Z kLIT "cursor" "I" := slot_ne (Or.inr (own_w hw 396 rfl)) (Or.inl (own_w hw 394 rfl)) (by decide) (t := .boolean) (t' := .int) (by decide) (by decide)
theorem d52_0 : decode k52 0 = .ok (.aload_n 0, 1) := by decide +kernel
theorem d52_1 : decode k52 1 = .ok (.invokespecial 1, 3) := by decide +kernel
theorem d52_4 : decode k52 4 = .ok (.aload_n 0, 1) := by decide +kernel
theorem d52_5 : decode k52 5 = .ok (.aload_n 1, 1) := by decide +kernel
theorem d52_6 : decode k52 6 = .ok (.putfield 7, 3) := by decide +kernel
theorem d52_9 : decode k52 9 = .ok (.aload_n 0, 1) := by decide +kernel
theorem d52_10 : decode k52 10 = .ok (.iload_n 2, 1) := by decide +kernel
theorem d52_11 : decode k52 11 = .ok (.putfield 13, 3) := by decide +kernel
theorem d52_14 : decode k52 14 = .ok (.aload_n 0, 1) := by decide +kernel
theorem d52_15 : decode k52 15 = .ok (.iconst 0, 1) := by decide +kernel
theorem d52_16 : decode k52 16 = .ok (.putfield 17, 3) := by decide +kernel
theorem d52_19 : decode k52 19 = .ok (.aload_n 0, 1) := by decide +kernel
theorem d52_20 : decode k52 20 = .ok (.iconst 0, 1) := by decide +kernel
theorem d52_21 : decode k52 21 = .ok (.putfield 20, 3) := by decide +kernel
theorem d52_24 : decode k52 24 = .ok (.return_, 1) := by decide +kernel
theorem pn17 : plainName kLIT = true := by first | (simp [plainName, overriddenIn]; done) | decide +kernel
theorem efm52 (m : MethodId) (r0 : Addr) (r1 : Addr) (n : Int32) : entryFrame m #[(.ref r0), (.ref r1), (.int n)] 3 = mkF m 0 #[oR r0, oR r1, oI n] [] := by first | (simp [entryFrame, mkF, argsToLocals, Value.category]; done) | rfl
def Qm52 (Z : State) (r0 : Addr) (r1 : Addr) (n : Int32) (w1 : Value) (w2 : Value) (w3 : Value) (w4 : Value) (h0 : Heap) (n0 : Nat) (v : Option Value) (h : Heap) (L : List Loc) : Prop := v = none ∧ Fr n0 L ∧ (Keep h0 h [r0]) ∧ (Fld Z h r0 kLIT "list" "Ljava/util/List;" (.ref r1)) ∧ (Fld Z h r0 kLIT "size" "I" (.int n)) ∧ (Fld Z h r0 kLIT "cursor" "I" (.int 0)) ∧ (Fld Z h r0 kLIT "isListIterator" "Z" (.int 0))
set_option maxRecDepth 65536 in
set_option maxHeartbeats 40000000 in
theorem rmm52 (l : Launch) (Z : State) (a0 : Array Value) (hw : own_HW Z a0) (ws : List Jvm.Cond) (r0 : Addr) (r1 : Addr) (n : Int32) (w1 : Value) (w2 : Value) (w3 : Value) (w4 : Value) (h0 : Heap) (n0 : Nat) (Z0 : n0 ≤ h0.size) (E_r0 : Exa Z h0 r0 kLIT) (g_r0 : n0 ≤ r0) (F_list_r0 : Fld Z h0 r0 kLIT "list" "Ljava/util/List;" w1) (F_size_r0 : Fld Z h0 r0 kLIT "size" "I" w2) (F_cursor_r0 : Fld Z h0 r0 kLIT "cursor" "I" w3) (F_isListIterator_r0 : Fld Z h0 r0 kLIT "isListIterator" "Z" w4) :
    MetFree l (⟨kLIT, "<init>", "(Ljava/util/List;I)V"⟩ : MethodName) (head1 (Jvm.Cond.code (⟨kLIT, "<init>", "(Ljava/util/List;I)V"⟩ : MethodName) jdk_53_method_1_code 3 none :: ws) ({ frames := 1, cells := 0, slots := 0, locals := 12 } : Room)) (fun a U => a = #[(.ref r0), (.ref r1), (.int n)] ∧ Z.Warmed39 U.vm ∧ U.heap = h0) (fun _ _ _ _ _ => True) (fun _ U o U' => ∃ v L, o = .returned v ∧ Qm52 Z r0 r1 n w1 w2 w3 w4 h0 n0 v U'.heap L ∧ FrameEnd U o U' L ({ frames := 1, cells := 0, slots := 0, locals := 12 } : Room).cells ({ frames := 1, cells := 0, slots := 0, locals := 12 } : Room).slots) := by
  refine MetFree.of_bodySF (plainFor_of_name pn17) hisR ?_
  intro p e s m args below meth c s₁ Bd hml0 hP hK
  obtain ⟨rfl, hZ, hh⟩ := hP
  have hx := Bd.exec
  have hby := Bd.bytes
  have hml : c.maxLocals = 3 := hml0
  have hown : s.vm.findClass kLIT = some m.cls := findClass_of_methodNamed Bd.named
  have hnm := (name_of_methodNamed Bd.named Bd.method).1
  have X0 : Stand p l e ({ frames := 1, cells := 0, slots := 0, locals := 12 } : Room) s m #[(.ref r0), (.ref r1), (.int n)] below meth c s₁ [] 0 0 := Stand.of_body Bd
  have e0 : s₁.heap = h0 := by rw [← hh, Bd.state]; rfl
  have N0 := Fr.nil n0
  have pre0 : ∀ t, Steps p.tables e below (s₁.setTop (mkF m 0 #[oR r0, oR r1, oI n] [])) t → Steps p.tables e below (s₁.setTop (entryFrame m #[(.ref r0), (.ref r1), (.int n)] 3)) t := fun t k => castTop (efm52 m r0 r1 n) k
  obtain ⟨T101, X101, e101, st101⟩ := initO X0 hx hZ hown (own_w hw 388 rfl) (own_w hw 23 rfl) (own_w hw 24 rfl) e0 (g := (mkF m 1 #[oR r0, oR r1, oI n] [(.ref r0)])) rfl (by rw [hml]; rfl) rfl (hb hby d52_1) (by decide) (W := 0) (by show 2 * 0 + _ ≤ _; exact Nat.le_of_eq rfl) (by decide)
  obtain ⟨T102, h102, X102, e102, W102, st102⟩ := putF X101 hx hZ hown (host := "") (Or.inl (own_w hw 389 rfl)) Via.refl e101 F_list_r0 E_r0 (Or.inr ⟨(own_w hw 390 rfl), rfl, hnm⟩) (own_w hw 378 rfl) (ty := (.object "java/util/List")) (by decide) rfl rfl (g := (mkF m 6 #[oR r0, oR r1, oI n] [(.ref r1), (.ref r0)])) rfl rfl (hb hby d52_6)
  have Fw102 := F_list_r0.same W102
  have N102 := Fr.snoc X102 N0 g_r0
  have ZZ103 : n0 ≤ h102.size := Nat.le_trans Z0 (Nat.le_of_eq W102.size.symm)
  have KK104 : Keep h0 h102 [r0] := (Keep.refl h0 [r0]).wr W102 (Or.inl (List.mem_of_getElem? (i := 0) rfl))
  have Fc105 := (F_size_r0.other W102 (Or.inr (sn12 hw)))
  obtain ⟨T106, h106, X106, e106, W106, st106⟩ := putF X102 hx hZ hown (host := "") (Or.inl (own_w hw 391 rfl)) Via.refl e102 Fc105 (E_r0.wr W102) (Or.inr ⟨(own_w hw 392 rfl), rfl, hnm⟩) (own_w hw 378 rfl) (ty := .int) (by decide) rfl rfl (g := (mkF m 11 #[oR r0, oR r1, oI n] [(.int n), (.ref r0)])) rfl rfl (hb hby d52_11)
  have Fw106 := Fc105.same W106
  have N106 := Fr.snoc X106 N102 g_r0
  have ZZ107 : n0 ≤ h106.size := Nat.le_trans ZZ103 (Nat.le_of_eq W106.size.symm)
  have KK108 : Keep h0 h106 [r0] := KK104.wr W106 (Or.inl (List.mem_of_getElem? (i := 0) rfl))
  have Fc109 := ((F_cursor_r0.other W102 (Or.inr (sn13 hw))).other W106 (Or.inr (sn14 hw)))
  obtain ⟨T110, h110, X110, e110, W110, st110⟩ := putF X106 hx hZ hown (host := "") (Or.inl (own_w hw 393 rfl)) Via.refl e106 Fc109 ((E_r0.wr W102).wr W106) (Or.inl (own_w hw 394 rfl)) (own_w hw 378 rfl) (ty := .int) (by decide) rfl rfl (g := (mkF m 16 #[oR r0, oR r1, oI n] [(.int 0), (.ref r0)])) rfl rfl (hb hby d52_16)
  have Fw110 := Fc109.same W110
  have N110 := Fr.snoc X110 N106 g_r0
  have ZZ111 : n0 ≤ h110.size := Nat.le_trans ZZ107 (Nat.le_of_eq W110.size.symm)
  have KK112 : Keep h0 h110 [r0] := KK108.wr W110 (Or.inl (List.mem_of_getElem? (i := 0) rfl))
  have Fc113 := (((F_isListIterator_r0.other W102 (Or.inr (sn15 hw))).other W106 (Or.inr (sn16 hw))).other W110 (Or.inr (sn17 hw)))
  have Fc114 := (((E_r0.wr W102).wr W106).wr W110)
  obtain ⟨T115, h115, X115, e115, W115, st115⟩ := putFN X110 hx hZ hown (own_w hw 395 rfl) Via.refl e110 Fc113 Fc114 (Or.inr ⟨(own_w hw 396 rfl), rfl, hnm⟩) (own_w hw 378 rfl) (ty := .boolean) (v' := (.int 0)) (by decide) rfl (by decide) (g := (mkF m 21 #[oR r0, oR r1, oI n] [(.int 0), (.ref r0)])) rfl rfl (hb hby d52_21)
  have Fw115 := Fc113.same W115
  have N115 := Fr.snoc X115 N110 g_r0
  have ZZ116 : n0 ≤ h115.size := Nat.le_trans ZZ111 (Nat.le_of_eq W115.size.symm)
  have KK117 : Keep h0 h115 [r0] := KK112.wr W115 (Or.inl (List.mem_of_getElem? (i := 0) rfl))
  obtain ⟨fs, hr, hrun, hended, hW, hsame⟩ := X115.leave (v := none) (fun _ => rfl)
  refine ⟨_, _, pre0 _ ?_, hrun, hended, _, _, rfl, ?_, ⟨_, rfl⟩, hW, hsame.mono (by decide) (by decide)⟩
  · show own_S p e below s₁ m 0 #[oR r0, oR r1, oI n] [] _
    refine XS.aloadN X0.here hx rfl (hb hby d52_0) rfl rfl ?_
    show own_S p e below s₁ m 1 _ [(.ref r0)] _
    refine st101 _ ?_
    show own_S p e below T101 m 4 _ [] _
    refine XS.aloadN X101.here hx rfl (hb hby d52_4) rfl rfl ?_
    refine XS.aloadN X101.here hx rfl (hb hby d52_5) rfl rfl ?_
    show own_S p e below T101 m 6 _ [(.ref r1), (.ref r0)] _
    refine st102 _ ?_
    show own_S p e below T102 m 9 _ [] _
    refine XS.aloadN X102.here hx rfl (hb hby d52_9) rfl rfl ?_
    refine XS.iloadN X102.here hx rfl (hb hby d52_10) rfl ?_
    show own_S p e below T102 m 11 #[oR r0, oR r1, oI n] [(.int n), (.ref r0)] _
    refine st106 _ ?_
    show own_S p e below T106 m 14 _ [] _
    refine XS.aloadN X106.here hx rfl (hb hby d52_14) rfl rfl ?_
    refine XS.iconst X106.here hx rfl (hb hby d52_15) ?_
    show own_S p e below T106 m 16 _ [(.int 0), (.ref r0)] _
    refine st110 _ ?_
    show own_S p e below T110 m 19 _ [] _
    refine XS.aloadN X110.here hx rfl (hb hby d52_19) rfl rfl ?_
    refine XS.iconst X110.here hx rfl (hb hby d52_20) ?_
    show own_S p e below T110 m 21 _ [(.int 0), (.ref r0)] _
    refine st115 _ ?_
    show own_S p e below T115 m 24 #[oR r0, oR r1, oI n] [] _
    exact X115.returnOut hx Bd.returns (hb hby d52_24) hr
  · show Qm52 Z r0 r1 n w1 w2 w3 w4 h0 n0 _ T115.heap _
    rw [e115]
    exact ⟨rfl, N115, KK117, (((Fw102.other W106 (Or.inr (Ne.symm (sn12 hw)))).other W110 (Or.inr (Ne.symm (sn13 hw)))).other W115 (Or.inr (Ne.symm (sn15 hw)))), ((Fw106.other W110 (Or.inr (Ne.symm (sn14 hw)))).other W115 (Or.inr (Ne.symm (sn16 hw)))), (Fw110.other W115 (Or.inr (Ne.symm (sn17 hw)))), Fw115⟩
theorem pd26 : parseMethodDescriptor "(Ljava/util/List;I)V" = some ⟨[(.object "java/util/List"), .int], none⟩ := by decide +kernel
theorem d51_0 : decode k51 0 = .ok (.new 61, 3) := by decide +kernel
theorem d51_3 : decode k51 3 = .ok (.dup, 1) := by decide +kernel
theorem d51_4 : decode k51 4 = .ok (.aload_n 0, 1) := by decide +kernel
theorem d51_5 : decode k51 5 = .ok (.aload_n 0, 1) := by decide +kernel
theorem d51_6 : decode k51 6 = .ok (.invokevirtual 13, 3) := by decide +kernel
theorem d51_9 : decode k51 9 = .ok (.invokespecial 63, 3) := by decide +kernel
theorem d51_12 : decode k51 12 = .ok (.areturn, 1) := by decide +kernel
theorem ef_it2 (m : MethodId) (r0 : Addr) : entryFrame m #[(.ref r0)] 1 = mkF m 0 #[oR r0] [] := by first | (simp [entryFrame, mkF, argsToLocals, Value.category]; done) | rfl
def Q_it2 (Z : State) (r0 : Addr) (x0 : Addr) (x1 : Addr) (em : Addr) (h0 : Heap) (n0 : Nat) (v : Option Value) (h : Heap) (L : List Loc) : Prop := ∃ it : Addr, v = some (.ref it) ∧ Fr n0 L ∧ (Keep h0 h []) ∧ (h0.size ≤ it) ∧ (Exa Z h it kLIT) ∧ (Fld Z h it kLIT "list" "Ljava/util/List;" (.ref r0)) ∧ (Fld Z h it kLIT "size" "I" (.int 2)) ∧ (Fld Z h it kLIT "cursor" "I" (.int 0)) ∧ (Fld Z h it kLIT "isListIterator" "Z" (.int 0))
set_option maxRecDepth 65536 in
set_option maxHeartbeats 40000000 in
theorem rm_it2 (l : Launch) (Z : State) (a0 : Array Value) (hw : own_HW Z a0) (ws : List Jvm.Cond) (r0 : Addr) (x0 : Addr) (x1 : Addr) (em : Addr) (h0 : Heap) (n0 : Nat) (Z0 : n0 ≤ h0.size) (E_r0 : Exa Z h0 r0 kL12) (F_e0_r0 : Fld Z h0 r0 kL12 "e0" "Ljava/lang/Object;" (.ref x0)) (F_e1_r0 : Fld Z h0 r0 kL12 "e1" "Ljava/lang/Object;" (.ref x1)) (hOld : Old Z n0 h0) (S_EMPTY : Sta Z Z.heap "java/util/ImmutableCollections" "EMPTY" "Ljava/lang/Object;" (.ref em)) (E_em : Exa Z Z.heap em kOB) (ne_x1_em : x1 ≠ em) :
    MetFree l (⟨"java/util/ImmutableCollections$AbstractImmutableList", "iterator", "()Ljava/util/Iterator;"⟩ : MethodName) (head1 (Jvm.Cond.code (⟨"java/util/ImmutableCollections$AbstractImmutableList", "iterator", "()Ljava/util/Iterator;"⟩ : MethodName) jdk_46_method_10_code 1 (some (.object "java/util/Iterator")) :: ws) ({ frames := 2, cells := 1, slots := 4, locals := 27 } : Room)) (fun a U => a = #[(.ref r0)] ∧ Z.Warmed39 U.vm ∧ U.heap = h0) (fun _ _ _ _ _ => True) (fun _ U o U' => ∃ v L, o = .returned v ∧ Q_it2 Z r0 x0 x1 em h0 n0 v U'.heap L ∧ FrameEnd U o U' L ({ frames := 2, cells := 1, slots := 4, locals := 27 } : Room).cells ({ frames := 2, cells := 1, slots := 4, locals := 27 } : Room).slots) := by
  refine MetFree.of_bodySF (plainFor_of_name pn9) hisR ?_
  intro p e s m args below meth c s₁ Bd hml0 hP hK
  obtain ⟨rfl, hZ, hh⟩ := hP
  have hx := Bd.exec
  have hby := Bd.bytes
  have hml : c.maxLocals = 1 := hml0
  have hown : s.vm.findClass "java/util/ImmutableCollections$AbstractImmutableList" = some m.cls := findClass_of_methodNamed Bd.named
  have hnm := (name_of_methodNamed Bd.named Bd.method).1
  have X0 : Stand p l e ({ frames := 2, cells := 1, slots := 4, locals := 27 } : Room) s m #[(.ref r0)] below meth c s₁ [] 0 0 := Stand.of_body Bd
  have e0 : s₁.heap = h0 := by rw [← hh, Bd.state]; rfl
  have N0 := Fr.nil n0
  have pre0 : ∀ t, Steps p.tables e below (s₁.setTop (mkF m 0 #[oR r0] [])) t → Steps p.tables e below (s₁.setTop (entryFrame m #[(.ref r0)] 1)) t := fun t k => castTop (ef_it2 m r0) k
  obtain ⟨T101, h101, X101, e101, E101, A101, D101, -, st101⟩ := newO X0 hx hZ hown (own_w hw 377 rfl) (own_w hw 378 rfl) (own_w hw 379 rfl) e0 (g := (mkF m 0 #[oR r0] [])) rfl (hb hby d51_0) (by decide) (by decide)
  obtain ⟨b101, g101⟩ : ∃ z, z = h0.size := ⟨_, rfl⟩
  rw [← g101] at A101 D101 st101
  have g_b101 : n0 ≤ b101 := Nat.le_trans Z0 (Nat.le_of_eq g101.symm)
  have sz_b101 : h0.size ≤ b101 := Nat.le_trans (Keep.refl h0 []).1 (Nat.le_of_eq g101.symm)
  have ZZ102 : n0 ≤ h101.size := Nat.le_trans Z0 E101.1
  have KK103 : Keep h0 h101 [] := (Keep.refl h0 []).ext E101
  have F_list_b101 : Fld Z h101 b101 kLIT "list" "Ljava/util/List;" .null := D101 (Or.inr (own_w hw 390 rfl)) (ty := (.object "java/util/List")) (by decide)
  have F_size_b101 : Fld Z h101 b101 kLIT "size" "I" (.int 0) := D101 (Or.inr (own_w hw 392 rfl)) (ty := .int) (by decide)
  have F_cursor_b101 : Fld Z h101 b101 kLIT "cursor" "I" (.int 0) := D101 (Or.inl (own_w hw 394 rfl)) (ty := .int) (by decide)
  have F_isListIterator_b101 : Fld Z h101 b101 kLIT "isListIterator" "Z" (.int 0) := D101 (Or.inr (own_w hw 396 rfl)) (ty := .boolean) (by decide)
  obtain ⟨cq104, kq104, q104a, q104b, q104c⟩ := isOf hZ e101 (E_r0.ext E101)
  obtain ⟨_, _, ⟨T104, L104, k104, n104⟩, -, X104, ⟨Lc104, hQ104, l104, y104, z104⟩, st104⟩ := X101.virtualBackUp hx (x := (⟨"java/util/ImmutableCollections$AbstractImmutableList", "size", "()I"⟩ : MethodName)) (y := (⟨kL12, "size", "()I"⟩ : MethodName)) hown (mvT hZ (own_w hw 380 rfl)) (mvT hZ (own_w hw 381 rfl)) (mvT hZ (own_w hw 382 rfl)) (by decide) (mvT hZ (own_w hw 383 rfl)) (mvT hZ (own_w hw 339 rfl)) (backOf (W := 3) (rmm47 l Z a0 hw [] r0 x0 x1 em h101 n0 ZZ102 (F_e0_r0.ext E101) (F_e1_r0.ext E101) (hOld.ext E101) S_EMPTY E_em ne_x1_em) hZ (own_w hw 343 rfl) (own_w hw 300 rfl) (by decide) (by decide)) q104a q104c (g := (mkF m 6 #[oR r0] [(.ref r0), (.ref r0), (.ref b101), (.ref b101)])) rfl (by rw [hml]; rfl) (Steps.refl _) (argsL := []) (rest := [(.ref r0), (.ref b101), (.ref b101)]) (lenOf pd19 rfl) rfl (by show 2 * 0 + _ ≤ _; exact Nat.le_of_eq rfl) (hb hby d51_6) (fun _ _ => ⟨rfl, e101, (by decide : 1 + 0 ≤ _), (by decide : 4 + 0 ≤ _)⟩)
  dsimp only [Pt.U, Pt.locs, Pt.cells, Pt.slots] at X104 l104 y104 z104 st104 hQ104
  subst l104 y104 z104
  obtain ⟨rfl, Nq104, P104_0⟩ := hQ104
  have N104 := Fr.app N0 Nq104
  obtain ⟨_, T105, L105, X105, hQ105, st105⟩ := own_cC X104 hx hZ hw hown (b := b101) (W := 1) (rmm52 l Z a0 hw [] b101 r0 (2 : Int32) .null (.int 0) (.int 0) (.int 0) h101 n0 ZZ102 A101 g_b101 F_list_b101 F_size_b101 F_cursor_b101 F_isListIterator_b101) (by decide) (by decide) (by decide) rfl 384 rfl 385 rfl 387 rfl 379 rfl P104_0 (g := (mkF m 9 #[oR r0] [(.int 2), (.ref r0), (.ref b101), (.ref b101)])) rfl (by rw [hml]; rfl) (argsL := [(.ref r0), (.int 2)]) (rest := [(.ref b101)]) (lenOf pd26 rfl) rfl (Nat.le_of_eq rfl) (hb hby d51_9) rfl (cN := 1) rfl (by decide) (sN := 4) rfl (by decide)
  obtain ⟨rfl, Nq105, P105_0, P105_1, P105_2, P105_3, P105_4⟩ := hQ105
  have N105 := Fr.app N104 Nq105
  have ZZ106 : n0 ≤ T105.heap.size := Nat.le_trans ZZ102 P105_0.1
  have KK107 : Keep h0 T105.heap [] := Keep.trans KK103 P105_0 (allS (Or.inr sz_b101) all0)
  obtain ⟨fs, hr, hrun, hended, hW, hsame⟩ := X105.leave (v := some (.ref b101)) (fun h => by rw [Bd.returns] at h; cases h)
  refine ⟨_, _, pre0 _ ?_, hrun, hended, _, _, rfl, ?_, ⟨_, rfl⟩, hW, hsame.mono (by decide) (by decide)⟩
  · show own_S p e below s₁ m 0 #[oR r0] [] _
    refine st101 _ ?_
    show own_S p e below T101 m 3 _ [(.ref b101)] _
    refine XS.dup X101.here hx rfl (hb hby d51_3) rfl rfl ?_
    refine XS.aloadN X101.here hx rfl (hb hby d51_4) rfl rfl ?_
    refine XS.aloadN X101.here hx rfl (hb hby d51_5) rfl rfl ?_
    show own_S p e below T101 m 6 _ [(.ref r0), (.ref r0), (.ref b101), (.ref b101)] _
    refine st104.trans ?_
    show own_S p e below T104 m 9 _ [(.int 2), (.ref r0), (.ref b101), (.ref b101)] _
    refine st105.trans ?_
    show own_S p e below T105 m 12 _ [(.ref b101)] _
    exact retOut X105 hx Bd.returns rfl (Or.inr (Or.inr (Or.inr (Or.inr ⟨rfl, rfl, rfl⟩)))) (hb hby d51_12) hr
  · show Q_it2 Z r0 x0 x1 em h0 n0 _ T105.heap _
    exact ⟨b101, rfl, N105, KK107, sz_b101, (A101.keep P105_0), P105_1, P105_2, P105_3, P105_4⟩
theorem ef_it3 (m : MethodId) (r0 : Addr) : entryFrame m #[(.ref r0)] 1 = mkF m 0 #[oR r0] [] := by first | (simp [entryFrame, mkF, argsToLocals, Value.category]; done) | rfl
def Q_it3 (Z : State) (r0 : Addr) (A : Addr) (x0 : Addr) (x1 : Addr) (x2 : Addr) (kA : ClassId) (wa : Value) (h0 : Heap) (n0 : Nat) (v : Option Value) (h : Heap) (L : List Loc) : Prop := ∃ it : Addr, v = some (.ref it) ∧ Fr n0 L ∧ (Keep h0 h []) ∧ (h0.size ≤ it) ∧ (Exa Z h it kLIT) ∧ (Fld Z h it kLIT "list" "Ljava/util/List;" (.ref r0)) ∧ (Fld Z h it kLIT "size" "I" (.int 3)) ∧ (Fld Z h it kLIT "cursor" "I" (.int 0)) ∧ (Fld Z h it kLIT "isListIterator" "Z" (.int 0))
set_option maxRecDepth 65536 in
set_option maxHeartbeats 40000000 in
theorem rm_it3 (l : Launch) (Z : State) (a0 : Array Value) (hw : own_HW Z a0) (ws : List Jvm.Cond) (r0 : Addr) (A : Addr) (x0 : Addr) (x1 : Addr) (x2 : Addr) (kA : ClassId) (wa : Value) (h0 : Heap) (n0 : Nat) (Z0 : n0 ≤ h0.size) (E_r0 : Exa Z h0 r0 kLN) (F_elements_r0 : Fld Z h0 r0 kLN "elements" kOA (.ref A)) (F_allowNulls_r0 : Fld Z h0 r0 kLN "allowNulls" "Z" wa) (V_A : Arv Z h0 A kA (.object kOB) (3 : Int32) [(.ref x0), (.ref x1), (.ref x2)] .null) :
    MetFree l (⟨"java/util/ImmutableCollections$AbstractImmutableList", "iterator", "()Ljava/util/Iterator;"⟩ : MethodName) (head1 (Jvm.Cond.code (⟨"java/util/ImmutableCollections$AbstractImmutableList", "iterator", "()Ljava/util/Iterator;"⟩ : MethodName) jdk_46_method_10_code 1 (some (.object "java/util/Iterator")) :: ws) ({ frames := 2, cells := 1, slots := 4, locals := 27 } : Room)) (fun a U => a = #[(.ref r0)] ∧ Z.Warmed39 U.vm ∧ U.heap = h0) (fun _ _ _ _ _ => True) (fun _ U o U' => ∃ v L, o = .returned v ∧ Q_it3 Z r0 A x0 x1 x2 kA wa h0 n0 v U'.heap L ∧ FrameEnd U o U' L ({ frames := 2, cells := 1, slots := 4, locals := 27 } : Room).cells ({ frames := 2, cells := 1, slots := 4, locals := 27 } : Room).slots) := by
  refine MetFree.of_bodySF (plainFor_of_name pn9) hisR ?_
  intro p e s m args below meth c s₁ Bd hml0 hP hK
  obtain ⟨rfl, hZ, hh⟩ := hP
  have hx := Bd.exec
  have hby := Bd.bytes
  have hml : c.maxLocals = 1 := hml0
  have hown : s.vm.findClass "java/util/ImmutableCollections$AbstractImmutableList" = some m.cls := findClass_of_methodNamed Bd.named
  have hnm := (name_of_methodNamed Bd.named Bd.method).1
  have X0 : Stand p l e ({ frames := 2, cells := 1, slots := 4, locals := 27 } : Room) s m #[(.ref r0)] below meth c s₁ [] 0 0 := Stand.of_body Bd
  have e0 : s₁.heap = h0 := by rw [← hh, Bd.state]; rfl
  have N0 := Fr.nil n0
  have pre0 : ∀ t, Steps p.tables e below (s₁.setTop (mkF m 0 #[oR r0] [])) t → Steps p.tables e below (s₁.setTop (entryFrame m #[(.ref r0)] 1)) t := fun t k => castTop (ef_it3 m r0) k
  obtain ⟨T101, h101, X101, e101, E101, A101, D101, -, st101⟩ := newO X0 hx hZ hown (own_w hw 377 rfl) (own_w hw 378 rfl) (own_w hw 379 rfl) e0 (g := (mkF m 0 #[oR r0] [])) rfl (hb hby d51_0) (by decide) (by decide)
  obtain ⟨b101, g101⟩ : ∃ z, z = h0.size := ⟨_, rfl⟩
  rw [← g101] at A101 D101 st101
  have g_b101 : n0 ≤ b101 := Nat.le_trans Z0 (Nat.le_of_eq g101.symm)
  have sz_b101 : h0.size ≤ b101 := Nat.le_trans (Keep.refl h0 []).1 (Nat.le_of_eq g101.symm)
  have ZZ102 : n0 ≤ h101.size := Nat.le_trans Z0 E101.1
  have KK103 : Keep h0 h101 [] := (Keep.refl h0 []).ext E101
  have F_list_b101 : Fld Z h101 b101 kLIT "list" "Ljava/util/List;" .null := D101 (Or.inr (own_w hw 390 rfl)) (ty := (.object "java/util/List")) (by decide)
  have F_size_b101 : Fld Z h101 b101 kLIT "size" "I" (.int 0) := D101 (Or.inr (own_w hw 392 rfl)) (ty := .int) (by decide)
  have F_cursor_b101 : Fld Z h101 b101 kLIT "cursor" "I" (.int 0) := D101 (Or.inl (own_w hw 394 rfl)) (ty := .int) (by decide)
  have F_isListIterator_b101 : Fld Z h101 b101 kLIT "isListIterator" "Z" (.int 0) := D101 (Or.inr (own_w hw 396 rfl)) (ty := .boolean) (by decide)
  have Fc104 := (F_allowNulls_r0.ext E101)
  obtain ⟨cq105, kq105, q105a, q105b, q105c⟩ := isOf hZ e101 (E_r0.ext E101)
  obtain ⟨_, _, ⟨T105, L105, k105, n105⟩, -, X105, ⟨Lc105, hQ105, l105, y105, z105⟩, st105⟩ := X101.virtualBackUp hx (x := (⟨"java/util/ImmutableCollections$AbstractImmutableList", "size", "()I"⟩ : MethodName)) (y := (⟨kLN, "size", "()I"⟩ : MethodName)) hown (mvT hZ (own_w hw 380 rfl)) (mvT hZ (own_w hw 381 rfl)) (mvT hZ (own_w hw 382 rfl)) (by decide) (mvT hZ (own_w hw 411 rfl)) (mvT hZ (own_w hw 355 rfl)) (backOf (W := 3) (rmm49 l Z a0 hw [] r0 A x0 x1 x2 kA wa h101 n0 ZZ102 (F_elements_r0.ext E101) Fc104 (V_A.ext E101)) hZ (own_w hw 358 rfl) (own_w hw 273 rfl) (by decide) (by decide)) q105a q105c (g := (mkF m 6 #[oR r0] [(.ref r0), (.ref r0), (.ref b101), (.ref b101)])) rfl (by rw [hml]; rfl) (Steps.refl _) (argsL := []) (rest := [(.ref r0), (.ref b101), (.ref b101)]) (lenOf pd19 rfl) rfl (by show 2 * 0 + _ ≤ _; exact Nat.le_of_eq rfl) (hb hby d51_6) (fun _ _ => ⟨rfl, e101, (by decide : 1 + 0 ≤ _), (by decide : 4 + 0 ≤ _)⟩)
  dsimp only [Pt.U, Pt.locs, Pt.cells, Pt.slots] at X105 l105 y105 z105 st105 hQ105
  subst l105 y105 z105
  obtain ⟨rfl, Nq105, P105_0⟩ := hQ105
  have N105 := Fr.app N0 Nq105
  obtain ⟨_, T106, L106, X106, hQ106, st106⟩ := own_cC X105 hx hZ hw hown (b := b101) (W := 1) (rmm52 l Z a0 hw [] b101 r0 (3 : Int32) .null (.int 0) (.int 0) (.int 0) h101 n0 ZZ102 A101 g_b101 F_list_b101 F_size_b101 F_cursor_b101 F_isListIterator_b101) (by decide) (by decide) (by decide) rfl 384 rfl 385 rfl 387 rfl 379 rfl P105_0 (g := (mkF m 9 #[oR r0] [(.int 3), (.ref r0), (.ref b101), (.ref b101)])) rfl (by rw [hml]; rfl) (argsL := [(.ref r0), (.int 3)]) (rest := [(.ref b101)]) (lenOf pd26 rfl) rfl (Nat.le_of_eq rfl) (hb hby d51_9) rfl (cN := 1) rfl (by decide) (sN := 4) rfl (by decide)
  obtain ⟨rfl, Nq106, P106_0, P106_1, P106_2, P106_3, P106_4⟩ := hQ106
  have N106 := Fr.app N105 Nq106
  have ZZ107 : n0 ≤ T106.heap.size := Nat.le_trans ZZ102 P106_0.1
  have KK108 : Keep h0 T106.heap [] := Keep.trans KK103 P106_0 (allS (Or.inr sz_b101) all0)
  obtain ⟨fs, hr, hrun, hended, hW, hsame⟩ := X106.leave (v := some (.ref b101)) (fun h => by rw [Bd.returns] at h; cases h)
  refine ⟨_, _, pre0 _ ?_, hrun, hended, _, _, rfl, ?_, ⟨_, rfl⟩, hW, hsame.mono (by decide) (by decide)⟩
  · show own_S p e below s₁ m 0 #[oR r0] [] _
    refine st101 _ ?_
    show own_S p e below T101 m 3 _ [(.ref b101)] _
    refine XS.dup X101.here hx rfl (hb hby d51_3) rfl rfl ?_
    refine XS.aloadN X101.here hx rfl (hb hby d51_4) rfl rfl ?_
    refine XS.aloadN X101.here hx rfl (hb hby d51_5) rfl rfl ?_
    show own_S p e below T101 m 6 _ [(.ref r0), (.ref r0), (.ref b101), (.ref b101)] _
    refine st105.trans ?_
    show own_S p e below T105 m 9 _ [(.int 3), (.ref r0), (.ref b101), (.ref b101)] _
    refine st106.trans ?_
    show own_S p e below T106 m 12 _ [(.ref b101)] _
    exact retOut X106 hx Bd.returns rfl (Or.inr (Or.inr (Or.inr (Or.inr ⟨rfl, rfl, rfl⟩)))) (hb hby d51_12) hr
  · show Q_it3 Z r0 A x0 x1 x2 kA wa h0 n0 _ T106.heap _
    exact ⟨b101, rfl, N106, KK108, sz_b101, (A101.keep P106_0), P106_1, P106_2, P106_3, P106_4⟩
theorem d53_0 : decode k53 0 = .ok (.aload_n 0, 1) := by decide +kernel
theorem d53_1 : decode k53 1 = .ok (.getfield 17, 3) := by decide +kernel
theorem d53_4 : decode k53 4 = .ok (.aload_n 0, 1) := by decide +kernel
theorem d53_5 : decode k53 5 = .ok (.getfield 13, 3) := by decide +kernel
theorem d53_8 : decode k53 8 = .ok (.if_icmp .eq 7, 3) := by decide +kernel
theorem d53_11 : decode k53 11 = .ok (.iconst 1, 1) := by decide +kernel
theorem d53_12 : decode k53 12 = .ok (.goto 4, 3) := by decide +kernel
theorem d53_16 : decode k53 16 = .ok (.ireturn, 1) := by decide +kernel
theorem ef_lh1 (m : MethodId) (r0 : Addr) : entryFrame m #[(.ref r0)] 1 = mkF m 0 #[oR r0] [] := by first | (simp [entryFrame, mkF, argsToLocals, Value.category]; done) | rfl
def Q_lh1 (Z : State) (r0 : Addr) (cc : Int32) (n : Int32) (w1 : Value) (w4 : Value) (h0 : Heap) (n0 : Nat) (v : Option Value) (h : Heap) (L : List Loc) : Prop := v = some (.int 1) ∧ Fr n0 L ∧ (h = h0)
set_option maxRecDepth 65536 in
set_option maxHeartbeats 40000000 in
theorem rm_lh1 (l : Launch) (Z : State) (a0 : Array Value) (hw : own_HW Z a0) (ws : List Jvm.Cond) (r0 : Addr) (cc : Int32) (n : Int32) (w1 : Value) (w4 : Value) (h0 : Heap) (n0 : Nat) (Z0 : n0 ≤ h0.size) (F_list_r0 : Fld Z h0 r0 kLIT "list" "Ljava/util/List;" w1) (F_size_r0 : Fld Z h0 r0 kLIT "size" "I" (.int n)) (F_cursor_r0 : Fld Z h0 r0 kLIT "cursor" "I" (.int cc)) (F_isListIterator_r0 : Fld Z h0 r0 kLIT "isListIterator" "Z" w4) (hq : ¬ (cc = n)) :
    MetFree l (⟨kLIT, "hasNext", "()Z"⟩ : MethodName) (head1 (Jvm.Cond.code (⟨kLIT, "hasNext", "()Z"⟩ : MethodName) jdk_53_method_3_code 1 (some .boolean) :: ws) ({ frames := 0, cells := 0, slots := 0, locals := 0 } : Room)) (fun a U => a = #[(.ref r0)] ∧ Z.Warmed39 U.vm ∧ U.heap = h0) (fun _ _ _ _ _ => True) (fun _ U o U' => ∃ v L, o = .returned v ∧ Q_lh1 Z r0 cc n w1 w4 h0 n0 v U'.heap L ∧ FrameEnd U o U' L ({ frames := 0, cells := 0, slots := 0, locals := 0 } : Room).cells ({ frames := 0, cells := 0, slots := 0, locals := 0 } : Room).slots) := by
  refine MetFree.of_bodySF (plainFor_of_name pn17) hisR ?_
  intro p e s m args below meth c s₁ Bd hml0 hP hK
  obtain ⟨rfl, hZ, hh⟩ := hP
  have hx := Bd.exec
  have hby := Bd.bytes
  have hml : c.maxLocals = 1 := hml0
  have hown : s.vm.findClass kLIT = some m.cls := findClass_of_methodNamed Bd.named
  have hnm := (name_of_methodNamed Bd.named Bd.method).1
  have X0 : Stand p l e ({ frames := 0, cells := 0, slots := 0, locals := 0 } : Room) s m #[(.ref r0)] below meth c s₁ [] 0 0 := Stand.of_body Bd
  have e0 : s₁.heap = h0 := by rw [← hh, Bd.state]; rfl
  have N0 := Fr.nil n0
  have pre0 : ∀ t, Steps p.tables e below (s₁.setTop (mkF m 0 #[oR r0] [])) t → Steps p.tables e below (s₁.setTop (entryFrame m #[(.ref r0)] 1)) t := fun t k => castTop (ef_lh1 m r0) k
  obtain ⟨T101, X101, e101, st101⟩ := getF X0 hx hZ hown (host := "") (Or.inl (own_w hw 393 rfl)) Via.refl e0 F_cursor_r0 (g := (mkF m 1 #[oR r0] [(.ref r0)])) rfl rfl (hb hby d53_1)
  obtain ⟨T102, X102, e102, st102⟩ := getF X101 hx hZ hown (host := "") (Or.inl (own_w hw 391 rfl)) Via.refl e101 F_size_r0 (g := (mkF m 5 #[oR r0] [(.ref r0), (.int cc)])) rfl rfl (hb hby d53_5)
  obtain ⟨fs, hr, hrun, hended, hW, hsame⟩ := X102.leave (v := some (.int 1)) (fun h => by rw [Bd.returns] at h; cases h)
  refine ⟨_, _, pre0 _ ?_, hrun, hended, _, _, rfl, ?_, ⟨_, rfl⟩, hW, hsame.mono (by decide) (by decide)⟩
  · show own_S p e below s₁ m 0 #[oR r0] [] _
    refine XS.aloadN X0.here hx rfl (hb hby d53_0) rfl rfl ?_
    show own_S p e below s₁ m 1 _ [(.ref r0)] _
    refine st101 _ ?_
    show own_S p e below T101 m 4 _ [(.int cc)] _
    refine XS.aloadN X101.here hx rfl (hb hby d53_4) rfl rfl ?_
    show own_S p e below T101 m 5 _ [(.ref r0), (.int cc)] _
    refine st102 _ ?_
    show own_S p e below T102 m 8 _ [(.int n), (.int cc)] _
    refine XS.icmpNo X102.here hx rfl (hb hby d53_8) rfl (feq (hq : ¬ (cc = n))).1 ?_
    refine XS.iconst X102.here hx rfl (hb hby d53_11) ?_
    refine XS.goto X102.here hx rfl (pc0 := 12) (pc' := 16) rfl (hb hby d53_12) (by decide) (by decide) ?_
    show own_S p e below T102 m 16 #[oR r0] [(.int 1)] _
    exact retN X102 hx (t := .boolean) Bd.returns (by simp) (hb hby d53_16) hr
  · show Q_lh1 Z r0 cc n w1 w4 h0 n0 _ T102.heap _
    rw [e102]
    exact ⟨rfl, N0, rfl⟩
theorem d53_15 : decode k53 15 = .ok (.iconst 0, 1) := by decide +kernel
theorem ef_lh0 (m : MethodId) (r0 : Addr) : entryFrame m #[(.ref r0)] 1 = mkF m 0 #[oR r0] [] := by first | (simp [entryFrame, mkF, argsToLocals, Value.category]; done) | rfl
def Q_lh0 (Z : State) (r0 : Addr) (cc : Int32) (n : Int32) (w1 : Value) (w4 : Value) (h0 : Heap) (n0 : Nat) (v : Option Value) (h : Heap) (L : List Loc) : Prop := v = some (.int 0) ∧ Fr n0 L ∧ (h = h0)
set_option maxRecDepth 65536 in
set_option maxHeartbeats 40000000 in
theorem rm_lh0 (l : Launch) (Z : State) (a0 : Array Value) (hw : own_HW Z a0) (ws : List Jvm.Cond) (r0 : Addr) (cc : Int32) (n : Int32) (w1 : Value) (w4 : Value) (h0 : Heap) (n0 : Nat) (Z0 : n0 ≤ h0.size) (F_list_r0 : Fld Z h0 r0 kLIT "list" "Ljava/util/List;" w1) (F_size_r0 : Fld Z h0 r0 kLIT "size" "I" (.int n)) (F_cursor_r0 : Fld Z h0 r0 kLIT "cursor" "I" (.int cc)) (F_isListIterator_r0 : Fld Z h0 r0 kLIT "isListIterator" "Z" w4) (hq : cc = n) :
    MetFree l (⟨kLIT, "hasNext", "()Z"⟩ : MethodName) (head1 (Jvm.Cond.code (⟨kLIT, "hasNext", "()Z"⟩ : MethodName) jdk_53_method_3_code 1 (some .boolean) :: ws) ({ frames := 0, cells := 0, slots := 0, locals := 0 } : Room)) (fun a U => a = #[(.ref r0)] ∧ Z.Warmed39 U.vm ∧ U.heap = h0) (fun _ _ _ _ _ => True) (fun _ U o U' => ∃ v L, o = .returned v ∧ Q_lh0 Z r0 cc n w1 w4 h0 n0 v U'.heap L ∧ FrameEnd U o U' L ({ frames := 0, cells := 0, slots := 0, locals := 0 } : Room).cells ({ frames := 0, cells := 0, slots := 0, locals := 0 } : Room).slots) := by
  refine MetFree.of_bodySF (plainFor_of_name pn17) hisR ?_
  intro p e s m args below meth c s₁ Bd hml0 hP hK
  obtain ⟨rfl, hZ, hh⟩ := hP
  have hx := Bd.exec
  have hby := Bd.bytes
  have hml : c.maxLocals = 1 := hml0
  have hown : s.vm.findClass kLIT = some m.cls := findClass_of_methodNamed Bd.named
  have hnm := (name_of_methodNamed Bd.named Bd.method).1
  have X0 : Stand p l e ({ frames := 0, cells := 0, slots := 0, locals := 0 } : Room) s m #[(.ref r0)] below meth c s₁ [] 0 0 := Stand.of_body Bd
  have e0 : s₁.heap = h0 := by rw [← hh, Bd.state]; rfl
  have N0 := Fr.nil n0
  have pre0 : ∀ t, Steps p.tables e below (s₁.setTop (mkF m 0 #[oR r0] [])) t → Steps p.tables e below (s₁.setTop (entryFrame m #[(.ref r0)] 1)) t := fun t k => castTop (ef_lh0 m r0) k
  obtain ⟨T101, X101, e101, st101⟩ := getF X0 hx hZ hown (host := "") (Or.inl (own_w hw 393 rfl)) Via.refl e0 F_cursor_r0 (g := (mkF m 1 #[oR r0] [(.ref r0)])) rfl rfl (hb hby d53_1)
  obtain ⟨T102, X102, e102, st102⟩ := getF X101 hx hZ hown (host := "") (Or.inl (own_w hw 391 rfl)) Via.refl e101 F_size_r0 (g := (mkF m 5 #[oR r0] [(.ref r0), (.int cc)])) rfl rfl (hb hby d53_5)
  obtain ⟨fs, hr, hrun, hended, hW, hsame⟩ := X102.leave (v := some (.int 0)) (fun h => by rw [Bd.returns] at h; cases h)
  refine ⟨_, _, pre0 _ ?_, hrun, hended, _, _, rfl, ?_, ⟨_, rfl⟩, hW, hsame.mono (by decide) (by decide)⟩
  · show own_S p e below s₁ m 0 #[oR r0] [] _
    refine XS.aloadN X0.here hx rfl (hb hby d53_0) rfl rfl ?_
    show own_S p e below s₁ m 1 _ [(.ref r0)] _
    refine st101 _ ?_
    show own_S p e below T101 m 4 _ [(.int cc)] _
    refine XS.aloadN X101.here hx rfl (hb hby d53_4) rfl rfl ?_
    show own_S p e below T101 m 5 _ [(.ref r0), (.int cc)] _
    refine st102 _ ?_
    show own_S p e below T102 m 8 _ [(.int n), (.int cc)] _
    refine XS.icmpYes X102.here hx rfl (pc0 := 8) (pc' := 15) rfl (hb hby d53_8) rfl (teq (hq : cc = n)).1 (by decide) (by decide) ?_
    refine XS.iconst X102.here hx rfl (hb hby d53_15) ?_
    show own_S p e below T102 m 16 _ [(.int 0)] _
    exact retN X102 hx (t := .boolean) Bd.returns (by simp) (hb hby d53_16) hr
  · show Q_lh0 Z r0 cc n w1 w4 h0 n0 _ T102.heap _
    rw [e102]
    exact ⟨rfl, N0, rfl⟩
theorem d54_0 : decode k54 0 = .ok (.aload_n 0, 1) := by decide +kernel
theorem d54_1 : decode k54 1 = .ok (.getfield 17, 3) := by decide +kernel
theorem d54_4 : decode k54 4 = .ok (.istore_n 1, 1) := by decide +kernel
theorem d54_5 : decode k54 5 = .ok (.aload_n 0, 1) := by decide +kernel
theorem d54_6 : decode k54 6 = .ok (.getfield 7, 3) := by decide +kernel
theorem d54_9 : decode k54 9 = .ok (.iload_n 1, 1) := by decide +kernel
theorem d54_10 : decode k54 10 = .ok (.invokeinterface 24 2, 5) := by decide +kernel
theorem d54_15 : decode k54 15 = .ok (.astore_n 2, 1) := by decide +kernel
theorem d54_16 : decode k54 16 = .ok (.aload_n 0, 1) := by decide +kernel
theorem d54_17 : decode k54 17 = .ok (.iload_n 1, 1) := by decide +kernel
theorem d54_18 : decode k54 18 = .ok (.iconst 1, 1) := by decide +kernel
theorem d54_19 : decode k54 19 = .ok (.iadd, 1) := by decide +kernel
theorem d54_20 : decode k54 20 = .ok (.putfield 17, 3) := by decide +kernel
theorem d54_23 : decode k54 23 = .ok (.aload_n 2, 1) := by decide +kernel
theorem d54_24 : decode k54 24 = .ok (.areturn, 1) := by decide +kernel
theorem ef_ln2_0 (m : MethodId) (r0 : Addr) : entryFrame m #[(.ref r0)] 3 = mkF m 0 #[oR r0, oU, oU] [] := by first | (simp [entryFrame, mkF, argsToLocals, Value.category]; done) | rfl
def Q_ln2_0 (Z : State) (r0 : Addr) (li : Addr) (x0 : Addr) (x1 : Addr) (em : Addr) (w4 : Value) (h0 : Heap) (n0 : Nat) (v : Option Value) (h : Heap) (L : List Loc) : Prop := v = some (.ref x0) ∧ Fr n0 L ∧ (Keep h0 h [r0]) ∧ (Fld Z h r0 kLIT "list" "Ljava/util/List;" (.ref li)) ∧ (Fld Z h r0 kLIT "size" "I" (.int 2)) ∧ (Fld Z h r0 kLIT "cursor" "I" (.int 1)) ∧ (Fld Z h r0 kLIT "isListIterator" "Z" w4)
set_option maxRecDepth 65536 in
set_option maxHeartbeats 40000000 in
theorem rm_ln2_0 (l : Launch) (Z : State) (a0 : Array Value) (hw : own_HW Z a0) (ws : List Jvm.Cond) (r0 : Addr) (li : Addr) (x0 : Addr) (x1 : Addr) (em : Addr) (w4 : Value) (h0 : Heap) (n0 : Nat) (Z0 : n0 ≤ h0.size) (E_r0 : Exa Z h0 r0 kLIT) (g_r0 : n0 ≤ r0) (F_list_r0 : Fld Z h0 r0 kLIT "list" "Ljava/util/List;" (.ref li)) (F_size_r0 : Fld Z h0 r0 kLIT "size" "I" (.int 2)) (F_cursor_r0 : Fld Z h0 r0 kLIT "cursor" "I" (.int 0)) (F_isListIterator_r0 : Fld Z h0 r0 kLIT "isListIterator" "Z" w4) (E_li : Exa Z h0 li kL12) (F_e0_li : Fld Z h0 li kL12 "e0" "Ljava/lang/Object;" (.ref x0)) (F_e1_li : Fld Z h0 li kL12 "e1" "Ljava/lang/Object;" (.ref x1)) (hOld : Old Z n0 h0) (S_EMPTY : Sta Z Z.heap "java/util/ImmutableCollections" "EMPTY" "Ljava/lang/Object;" (.ref em)) (E_em : Exa Z Z.heap em kOB) (ne_x1_em : x1 ≠ em) :
    MetFree l (⟨kLIT, "next", "()Ljava/lang/Object;"⟩ : MethodName) (head1 (Jvm.Cond.codeWith (⟨kLIT, "next", "()Ljava/lang/Object;"⟩ : MethodName) jdk_53_method_4_code 3 (some (.object kOB)) [((0 : Nat), (24 : Nat), (25 : Nat), (30 : Nat))] :: ws) ({ frames := 1, cells := 0, slots := 0, locals := 13 } : Room)) (fun a U => a = #[(.ref r0)] ∧ Z.Warmed39 U.vm ∧ U.heap = h0) (fun _ _ _ _ _ => True) (fun _ U o U' => ∃ v L, o = .returned v ∧ Q_ln2_0 Z r0 li x0 x1 em w4 h0 n0 v U'.heap L ∧ FrameEnd U o U' L ({ frames := 1, cells := 0, slots := 0, locals := 13 } : Room).cells ({ frames := 1, cells := 0, slots := 0, locals := 13 } : Room).slots) := by
  refine MetFree.of_bodySF (plainFor_of_name pn17) hisWith ?_
  intro p e s m args below meth c s₁ Bd hml0 hP hK
  obtain ⟨rfl, hZ, hh⟩ := hP
  have hx := Bd.exec
  have hby := Bd.bytes
  have hml : c.maxLocals = 3 := hml0
  have hown : s.vm.findClass kLIT = some m.cls := findClass_of_methodNamed Bd.named
  have hnm := (name_of_methodNamed Bd.named Bd.method).1
  have X0 : Stand p l e ({ frames := 1, cells := 0, slots := 0, locals := 13 } : Room) s m #[(.ref r0)] below meth c s₁ [] 0 0 := Stand.of_body Bd
  have e0 : s₁.heap = h0 := by rw [← hh, Bd.state]; rfl
  have N0 := Fr.nil n0
  have pre0 : ∀ t, Steps p.tables e below (s₁.setTop (mkF m 0 #[oR r0, oU, oU] [])) t → Steps p.tables e below (s₁.setTop (entryFrame m #[(.ref r0)] 3)) t := fun t k => castTop (ef_ln2_0 m r0) k
  obtain ⟨T101, X101, e101, st101⟩ := getF X0 hx hZ hown (host := "") (Or.inl (own_w hw 393 rfl)) Via.refl e0 F_cursor_r0 (g := (mkF m 1 #[oR r0, oU, oU] [(.ref r0)])) rfl rfl (hb hby d54_1)
  obtain ⟨T102, X102, e102, st102⟩ := getF X101 hx hZ hown (host := "") (Or.inl (own_w hw 389 rfl)) Via.refl e101 F_list_r0 (g := (mkF m 6 #[oR r0, oI 0, oU] [(.ref r0)])) rfl rfl (hb hby d54_6)
  obtain ⟨_, T103, L103, X103, hQ103, st103⟩ := own_cI X102 hx hZ hw hown (b := li) (W := 0) (rm_g12_0 l Z a0 hw [] li x0 x1 em h0 n0 Z0 F_e0_li F_e1_li hOld S_EMPTY E_em ne_x1_em) (by decide) (by decide) (by decide) 408 rfl 119 rfl 120 rfl 347 rfl 348 rfl 349 rfl 350 rfl 342 rfl 351 rfl 300 rfl e102 E_li (g := (mkF m 10 #[oR r0, oI 0, oU] [(.int 0), (.ref li)])) rfl (by rw [hml]; rfl) (argsL := [(.int 0)]) (rest := []) (lenOf pd7 rfl) rfl (Nat.le_of_eq rfl) (hb hby d54_10) rfl (cN := 0) rfl (by decide) (sN := 0) rfl (by decide)
  obtain ⟨rfl, Nq103, P103_0⟩ := hQ103
  have N103 := Fr.app N0 Nq103
  obtain ⟨T104, h104, X104, e104, W104, st104⟩ := putF X103 hx hZ hown (host := "") (Or.inl (own_w hw 393 rfl)) Via.refl P103_0 F_cursor_r0 E_r0 (Or.inl (own_w hw 394 rfl)) (own_w hw 378 rfl) (ty := .int) (by decide) rfl rfl (g := (mkF m 20 #[oR r0, oI 0, oR x0] [(.int 1), (.ref r0)])) rfl rfl (hb hby d54_20)
  have Fw104 := F_cursor_r0.same W104
  have N104 := Fr.snoc X104 N103 g_r0
  have ZZ105 : n0 ≤ h104.size := Nat.le_trans Z0 (Nat.le_of_eq W104.size.symm)
  have KK106 : Keep h0 h104 [r0] := (Keep.refl h0 [r0]).wr W104 (Or.inl (List.mem_of_getElem? (i := 0) rfl))
  obtain ⟨fs, hr, hrun, hended, hW, hsame⟩ := X104.leave (v := some (.ref x0)) (fun h => by rw [Bd.returns] at h; cases h)
  refine ⟨_, _, pre0 _ ?_, hrun, hended, _, _, rfl, ?_, ⟨_, rfl⟩, hW, hsame.mono (by decide) (by decide)⟩
  · show own_S p e below s₁ m 0 #[oR r0, oU, oU] [] _
    refine XS.aloadN X0.here hx rfl (hb hby d54_0) rfl rfl ?_
    show own_S p e below s₁ m 1 _ [(.ref r0)] _
    refine st101 _ ?_
    show own_S p e below T101 m 4 _ [(.int 0)] _
    refine XS.istoreN X101.here hx rfl (hb hby d54_4) rfl (l' := #[oR r0, oI 0, oU]) rfl ?_
    refine XS.aloadN X101.here hx rfl (hb hby d54_5) rfl rfl ?_
    show own_S p e below T101 m 6 _ [(.ref r0)] _
    refine st102 _ ?_
    show own_S p e below T102 m 9 _ [(.ref li)] _
    refine XS.iloadN X102.here hx rfl (hb hby d54_9) rfl ?_
    show own_S p e below T102 m 10 _ [(.int 0), (.ref li)] _
    refine st103.trans ?_
    show own_S p e below T103 m 15 _ [(.ref x0)] _
    refine XS.astoreN X103.here hx rfl (hb hby d54_15) rfl rfl (l' := #[oR r0, oI 0, oR x0]) rfl ?_
    refine XS.aloadN X103.here hx rfl (hb hby d54_16) rfl rfl ?_
    refine XS.iloadN X103.here hx rfl (hb hby d54_17) rfl ?_
    refine XS.iconst X103.here hx rfl (hb hby d54_18) ?_
    show own_S p e below T103 m 19 _ [(.int 1), (.int 0), (.ref r0)] _
    refine XS.iadd X103.here hx rfl (hb hby d54_19) rfl ?_
    show own_S p e below T103 m 20 _ [(.int ((0 : Int32) + (1 : Int32))), (.ref r0)] _
    refine reI (by decide : ((0 : Int32) + (1 : Int32)) = (1 : Int32)) ?_
    show own_S p e below T103 m 20 _ [(.int 1), (.ref r0)] _
    refine st104 _ ?_
    show own_S p e below T104 m 23 _ [] _
    refine XS.aloadN X104.here hx rfl (hb hby d54_23) rfl rfl ?_
    show own_S p e below T104 m 24 #[oR r0, oI 0, oR x0] [(.ref x0)] _
    exact retOut X104 hx Bd.returns rfl (Or.inr (Or.inr (Or.inr (Or.inr ⟨rfl, rfl, rfl⟩)))) (hb hby d54_24) hr
  · show Q_ln2_0 Z r0 li x0 x1 em w4 h0 n0 _ T104.heap _
    rw [e104]
    exact ⟨rfl, N104, KK106, (F_list_r0.other W104 (Or.inr (Ne.symm (sn13 hw)))), (F_size_r0.other W104 (Or.inr (Ne.symm (sn14 hw)))), Fw104, (F_isListIterator_r0.other W104 (Or.inr (sn17 hw)))⟩
theorem ef_ln2_1 (m : MethodId) (r0 : Addr) : entryFrame m #[(.ref r0)] 3 = mkF m 0 #[oR r0, oU, oU] [] := by first | (simp [entryFrame, mkF, argsToLocals, Value.category]; done) | rfl
def Q_ln2_1 (Z : State) (r0 : Addr) (li : Addr) (x0 : Addr) (x1 : Addr) (em : Addr) (w4 : Value) (h0 : Heap) (n0 : Nat) (v : Option Value) (h : Heap) (L : List Loc) : Prop := v = some (.ref x1) ∧ Fr n0 L ∧ (Keep h0 h [r0]) ∧ (Fld Z h r0 kLIT "list" "Ljava/util/List;" (.ref li)) ∧ (Fld Z h r0 kLIT "size" "I" (.int 2)) ∧ (Fld Z h r0 kLIT "cursor" "I" (.int 2)) ∧ (Fld Z h r0 kLIT "isListIterator" "Z" w4)
set_option maxRecDepth 65536 in
set_option maxHeartbeats 40000000 in
theorem rm_ln2_1 (l : Launch) (Z : State) (a0 : Array Value) (hw : own_HW Z a0) (ws : List Jvm.Cond) (r0 : Addr) (li : Addr) (x0 : Addr) (x1 : Addr) (em : Addr) (w4 : Value) (h0 : Heap) (n0 : Nat) (Z0 : n0 ≤ h0.size) (E_r0 : Exa Z h0 r0 kLIT) (g_r0 : n0 ≤ r0) (F_list_r0 : Fld Z h0 r0 kLIT "list" "Ljava/util/List;" (.ref li)) (F_size_r0 : Fld Z h0 r0 kLIT "size" "I" (.int 2)) (F_cursor_r0 : Fld Z h0 r0 kLIT "cursor" "I" (.int 1)) (F_isListIterator_r0 : Fld Z h0 r0 kLIT "isListIterator" "Z" w4) (E_li : Exa Z h0 li kL12) (F_e0_li : Fld Z h0 li kL12 "e0" "Ljava/lang/Object;" (.ref x0)) (F_e1_li : Fld Z h0 li kL12 "e1" "Ljava/lang/Object;" (.ref x1)) (hOld : Old Z n0 h0) (S_EMPTY : Sta Z Z.heap "java/util/ImmutableCollections" "EMPTY" "Ljava/lang/Object;" (.ref em)) (E_em : Exa Z Z.heap em kOB) (ne_x1_em : x1 ≠ em) :
    MetFree l (⟨kLIT, "next", "()Ljava/lang/Object;"⟩ : MethodName) (head1 (Jvm.Cond.codeWith (⟨kLIT, "next", "()Ljava/lang/Object;"⟩ : MethodName) jdk_53_method_4_code 3 (some (.object kOB)) [((0 : Nat), (24 : Nat), (25 : Nat), (30 : Nat))] :: ws) ({ frames := 1, cells := 0, slots := 0, locals := 13 } : Room)) (fun a U => a = #[(.ref r0)] ∧ Z.Warmed39 U.vm ∧ U.heap = h0) (fun _ _ _ _ _ => True) (fun _ U o U' => ∃ v L, o = .returned v ∧ Q_ln2_1 Z r0 li x0 x1 em w4 h0 n0 v U'.heap L ∧ FrameEnd U o U' L ({ frames := 1, cells := 0, slots := 0, locals := 13 } : Room).cells ({ frames := 1, cells := 0, slots := 0, locals := 13 } : Room).slots) := by
  refine MetFree.of_bodySF (plainFor_of_name pn17) hisWith ?_
  intro p e s m args below meth c s₁ Bd hml0 hP hK
  obtain ⟨rfl, hZ, hh⟩ := hP
  have hx := Bd.exec
  have hby := Bd.bytes
  have hml : c.maxLocals = 3 := hml0
  have hown : s.vm.findClass kLIT = some m.cls := findClass_of_methodNamed Bd.named
  have hnm := (name_of_methodNamed Bd.named Bd.method).1
  have X0 : Stand p l e ({ frames := 1, cells := 0, slots := 0, locals := 13 } : Room) s m #[(.ref r0)] below meth c s₁ [] 0 0 := Stand.of_body Bd
  have e0 : s₁.heap = h0 := by rw [← hh, Bd.state]; rfl
  have N0 := Fr.nil n0
  have pre0 : ∀ t, Steps p.tables e below (s₁.setTop (mkF m 0 #[oR r0, oU, oU] [])) t → Steps p.tables e below (s₁.setTop (entryFrame m #[(.ref r0)] 3)) t := fun t k => castTop (ef_ln2_1 m r0) k
  obtain ⟨T101, X101, e101, st101⟩ := getF X0 hx hZ hown (host := "") (Or.inl (own_w hw 393 rfl)) Via.refl e0 F_cursor_r0 (g := (mkF m 1 #[oR r0, oU, oU] [(.ref r0)])) rfl rfl (hb hby d54_1)
  obtain ⟨T102, X102, e102, st102⟩ := getF X101 hx hZ hown (host := "") (Or.inl (own_w hw 389 rfl)) Via.refl e101 F_list_r0 (g := (mkF m 6 #[oR r0, oI 1, oU] [(.ref r0)])) rfl rfl (hb hby d54_6)
  obtain ⟨_, T103, L103, X103, hQ103, st103⟩ := own_cI X102 hx hZ hw hown (b := li) (W := 0) (rm_g12_1 l Z a0 hw [] li x0 x1 em h0 n0 Z0 F_e0_li F_e1_li hOld S_EMPTY E_em ne_x1_em) (by decide) (by decide) (by decide) 408 rfl 119 rfl 120 rfl 347 rfl 348 rfl 349 rfl 350 rfl 342 rfl 351 rfl 300 rfl e102 E_li (g := (mkF m 10 #[oR r0, oI 1, oU] [(.int 1), (.ref li)])) rfl (by rw [hml]; rfl) (argsL := [(.int 1)]) (rest := []) (lenOf pd7 rfl) rfl (Nat.le_of_eq rfl) (hb hby d54_10) rfl (cN := 0) rfl (by decide) (sN := 0) rfl (by decide)
  obtain ⟨rfl, Nq103, P103_0⟩ := hQ103
  have N103 := Fr.app N0 Nq103
  obtain ⟨T104, h104, X104, e104, W104, st104⟩ := putF X103 hx hZ hown (host := "") (Or.inl (own_w hw 393 rfl)) Via.refl P103_0 F_cursor_r0 E_r0 (Or.inl (own_w hw 394 rfl)) (own_w hw 378 rfl) (ty := .int) (by decide) rfl rfl (g := (mkF m 20 #[oR r0, oI 1, oR x1] [(.int 2), (.ref r0)])) rfl rfl (hb hby d54_20)
  have Fw104 := F_cursor_r0.same W104
  have N104 := Fr.snoc X104 N103 g_r0
  have ZZ105 : n0 ≤ h104.size := Nat.le_trans Z0 (Nat.le_of_eq W104.size.symm)
  have KK106 : Keep h0 h104 [r0] := (Keep.refl h0 [r0]).wr W104 (Or.inl (List.mem_of_getElem? (i := 0) rfl))
  obtain ⟨fs, hr, hrun, hended, hW, hsame⟩ := X104.leave (v := some (.ref x1)) (fun h => by rw [Bd.returns] at h; cases h)
  refine ⟨_, _, pre0 _ ?_, hrun, hended, _, _, rfl, ?_, ⟨_, rfl⟩, hW, hsame.mono (by decide) (by decide)⟩
  · show own_S p e below s₁ m 0 #[oR r0, oU, oU] [] _
    refine XS.aloadN X0.here hx rfl (hb hby d54_0) rfl rfl ?_
    show own_S p e below s₁ m 1 _ [(.ref r0)] _
    refine st101 _ ?_
    show own_S p e below T101 m 4 _ [(.int 1)] _
    refine XS.istoreN X101.here hx rfl (hb hby d54_4) rfl (l' := #[oR r0, oI 1, oU]) rfl ?_
    refine XS.aloadN X101.here hx rfl (hb hby d54_5) rfl rfl ?_
    show own_S p e below T101 m 6 _ [(.ref r0)] _
    refine st102 _ ?_
    show own_S p e below T102 m 9 _ [(.ref li)] _
    refine XS.iloadN X102.here hx rfl (hb hby d54_9) rfl ?_
    show own_S p e below T102 m 10 _ [(.int 1), (.ref li)] _
    refine st103.trans ?_
    show own_S p e below T103 m 15 _ [(.ref x1)] _
    refine XS.astoreN X103.here hx rfl (hb hby d54_15) rfl rfl (l' := #[oR r0, oI 1, oR x1]) rfl ?_
    refine XS.aloadN X103.here hx rfl (hb hby d54_16) rfl rfl ?_
    refine XS.iloadN X103.here hx rfl (hb hby d54_17) rfl ?_
    refine XS.iconst X103.here hx rfl (hb hby d54_18) ?_
    show own_S p e below T103 m 19 _ [(.int 1), (.int 1), (.ref r0)] _
    refine XS.iadd X103.here hx rfl (hb hby d54_19) rfl ?_
    show own_S p e below T103 m 20 _ [(.int ((1 : Int32) + (1 : Int32))), (.ref r0)] _
    refine reI (by decide : ((1 : Int32) + (1 : Int32)) = (2 : Int32)) ?_
    show own_S p e below T103 m 20 _ [(.int 2), (.ref r0)] _
    refine st104 _ ?_
    show own_S p e below T104 m 23 _ [] _
    refine XS.aloadN X104.here hx rfl (hb hby d54_23) rfl rfl ?_
    show own_S p e below T104 m 24 #[oR r0, oI 1, oR x1] [(.ref x1)] _
    exact retOut X104 hx Bd.returns rfl (Or.inr (Or.inr (Or.inr (Or.inr ⟨rfl, rfl, rfl⟩)))) (hb hby d54_24) hr
  · show Q_ln2_1 Z r0 li x0 x1 em w4 h0 n0 _ T104.heap _
    rw [e104]
    exact ⟨rfl, N104, KK106, (F_list_r0.other W104 (Or.inr (Ne.symm (sn13 hw)))), (F_size_r0.other W104 (Or.inr (Ne.symm (sn14 hw)))), Fw104, (F_isListIterator_r0.other W104 (Or.inr (sn17 hw)))⟩
theorem ef_ln3_0 (m : MethodId) (r0 : Addr) : entryFrame m #[(.ref r0)] 3 = mkF m 0 #[oR r0, oU, oU] [] := by first | (simp [entryFrame, mkF, argsToLocals, Value.category]; done) | rfl
def Q_ln3_0 (Z : State) (r0 : Addr) (li : Addr) (A : Addr) (x0 : Addr) (x1 : Addr) (x2 : Addr) (kA : ClassId) (wa : Value) (w4 : Value) (h0 : Heap) (n0 : Nat) (v : Option Value) (h : Heap) (L : List Loc) : Prop := v = some (.ref x0) ∧ Fr n0 L ∧ (Keep h0 h [r0]) ∧ (Fld Z h r0 kLIT "list" "Ljava/util/List;" (.ref li)) ∧ (Fld Z h r0 kLIT "size" "I" (.int 3)) ∧ (Fld Z h r0 kLIT "cursor" "I" (.int 1)) ∧ (Fld Z h r0 kLIT "isListIterator" "Z" w4)
set_option maxRecDepth 65536 in
set_option maxHeartbeats 40000000 in
theorem rm_ln3_0 (l : Launch) (Z : State) (a0 : Array Value) (hw : own_HW Z a0) (ws : List Jvm.Cond) (r0 : Addr) (li : Addr) (A : Addr) (x0 : Addr) (x1 : Addr) (x2 : Addr) (kA : ClassId) (wa : Value) (w4 : Value) (h0 : Heap) (n0 : Nat) (Z0 : n0 ≤ h0.size) (E_r0 : Exa Z h0 r0 kLIT) (g_r0 : n0 ≤ r0) (F_list_r0 : Fld Z h0 r0 kLIT "list" "Ljava/util/List;" (.ref li)) (F_size_r0 : Fld Z h0 r0 kLIT "size" "I" (.int 3)) (F_cursor_r0 : Fld Z h0 r0 kLIT "cursor" "I" (.int 0)) (F_isListIterator_r0 : Fld Z h0 r0 kLIT "isListIterator" "Z" w4) (E_li : Exa Z h0 li kLN) (F_elements_li : Fld Z h0 li kLN "elements" kOA (.ref A)) (F_allowNulls_li : Fld Z h0 li kLN "allowNulls" "Z" wa) (V_A : Arv Z h0 A kA (.object kOB) (3 : Int32) [(.ref x0), (.ref x1), (.ref x2)] .null) :
    MetFree l (⟨kLIT, "next", "()Ljava/lang/Object;"⟩ : MethodName) (head1 (Jvm.Cond.codeWith (⟨kLIT, "next", "()Ljava/lang/Object;"⟩ : MethodName) jdk_53_method_4_code 3 (some (.object kOB)) [((0 : Nat), (24 : Nat), (25 : Nat), (30 : Nat))] :: ws) ({ frames := 1, cells := 0, slots := 0, locals := 13 } : Room)) (fun a U => a = #[(.ref r0)] ∧ Z.Warmed39 U.vm ∧ U.heap = h0) (fun _ _ _ _ _ => True) (fun _ U o U' => ∃ v L, o = .returned v ∧ Q_ln3_0 Z r0 li A x0 x1 x2 kA wa w4 h0 n0 v U'.heap L ∧ FrameEnd U o U' L ({ frames := 1, cells := 0, slots := 0, locals := 13 } : Room).cells ({ frames := 1, cells := 0, slots := 0, locals := 13 } : Room).slots) := by
  refine MetFree.of_bodySF (plainFor_of_name pn17) hisWith ?_
  intro p e s m args below meth c s₁ Bd hml0 hP hK
  obtain ⟨rfl, hZ, hh⟩ := hP
  have hx := Bd.exec
  have hby := Bd.bytes
  have hml : c.maxLocals = 3 := hml0
  have hown : s.vm.findClass kLIT = some m.cls := findClass_of_methodNamed Bd.named
  have hnm := (name_of_methodNamed Bd.named Bd.method).1
  have X0 : Stand p l e ({ frames := 1, cells := 0, slots := 0, locals := 13 } : Room) s m #[(.ref r0)] below meth c s₁ [] 0 0 := Stand.of_body Bd
  have e0 : s₁.heap = h0 := by rw [← hh, Bd.state]; rfl
  have N0 := Fr.nil n0
  have pre0 : ∀ t, Steps p.tables e below (s₁.setTop (mkF m 0 #[oR r0, oU, oU] [])) t → Steps p.tables e below (s₁.setTop (entryFrame m #[(.ref r0)] 3)) t := fun t k => castTop (ef_ln3_0 m r0) k
  obtain ⟨T101, X101, e101, st101⟩ := getF X0 hx hZ hown (host := "") (Or.inl (own_w hw 393 rfl)) Via.refl e0 F_cursor_r0 (g := (mkF m 1 #[oR r0, oU, oU] [(.ref r0)])) rfl rfl (hb hby d54_1)
  obtain ⟨T102, X102, e102, st102⟩ := getF X101 hx hZ hown (host := "") (Or.inl (own_w hw 389 rfl)) Via.refl e101 F_list_r0 (g := (mkF m 6 #[oR r0, oI 0, oU] [(.ref r0)])) rfl rfl (hb hby d54_6)
  obtain ⟨_, T103, L103, X103, hQ103, st103⟩ := own_cI X102 hx hZ hw hown (b := li) (W := 0) (rm_gN_0 l Z a0 hw [] li A x0 x1 x2 kA wa h0 n0 Z0 F_elements_li F_allowNulls_li V_A) (by decide) (by decide) (by decide) 408 rfl 119 rfl 120 rfl 412 rfl 413 rfl 414 rfl 415 rfl 353 rfl 416 rfl 273 rfl e102 E_li (g := (mkF m 10 #[oR r0, oI 0, oU] [(.int 0), (.ref li)])) rfl (by rw [hml]; rfl) (argsL := [(.int 0)]) (rest := []) (lenOf pd7 rfl) rfl (Nat.le_of_eq rfl) (hb hby d54_10) rfl (cN := 0) rfl (by decide) (sN := 0) rfl (by decide)
  obtain ⟨rfl, Nq103, P103_0⟩ := hQ103
  have N103 := Fr.app N0 Nq103
  obtain ⟨T104, h104, X104, e104, W104, st104⟩ := putF X103 hx hZ hown (host := "") (Or.inl (own_w hw 393 rfl)) Via.refl P103_0 F_cursor_r0 E_r0 (Or.inl (own_w hw 394 rfl)) (own_w hw 378 rfl) (ty := .int) (by decide) rfl rfl (g := (mkF m 20 #[oR r0, oI 0, oR x0] [(.int 1), (.ref r0)])) rfl rfl (hb hby d54_20)
  have Fw104 := F_cursor_r0.same W104
  have N104 := Fr.snoc X104 N103 g_r0
  have ZZ105 : n0 ≤ h104.size := Nat.le_trans Z0 (Nat.le_of_eq W104.size.symm)
  have KK106 : Keep h0 h104 [r0] := (Keep.refl h0 [r0]).wr W104 (Or.inl (List.mem_of_getElem? (i := 0) rfl))
  obtain ⟨fs, hr, hrun, hended, hW, hsame⟩ := X104.leave (v := some (.ref x0)) (fun h => by rw [Bd.returns] at h; cases h)
  refine ⟨_, _, pre0 _ ?_, hrun, hended, _, _, rfl, ?_, ⟨_, rfl⟩, hW, hsame.mono (by decide) (by decide)⟩
  · show own_S p e below s₁ m 0 #[oR r0, oU, oU] [] _
    refine XS.aloadN X0.here hx rfl (hb hby d54_0) rfl rfl ?_
    show own_S p e below s₁ m 1 _ [(.ref r0)] _
    refine st101 _ ?_
    show own_S p e below T101 m 4 _ [(.int 0)] _
    refine XS.istoreN X101.here hx rfl (hb hby d54_4) rfl (l' := #[oR r0, oI 0, oU]) rfl ?_
    refine XS.aloadN X101.here hx rfl (hb hby d54_5) rfl rfl ?_
    show own_S p e below T101 m 6 _ [(.ref r0)] _
    refine st102 _ ?_
    show own_S p e below T102 m 9 _ [(.ref li)] _
    refine XS.iloadN X102.here hx rfl (hb hby d54_9) rfl ?_
    show own_S p e below T102 m 10 _ [(.int 0), (.ref li)] _
    refine st103.trans ?_
    show own_S p e below T103 m 15 _ [(.ref x0)] _
    refine XS.astoreN X103.here hx rfl (hb hby d54_15) rfl rfl (l' := #[oR r0, oI 0, oR x0]) rfl ?_
    refine XS.aloadN X103.here hx rfl (hb hby d54_16) rfl rfl ?_
    refine XS.iloadN X103.here hx rfl (hb hby d54_17) rfl ?_
    refine XS.iconst X103.here hx rfl (hb hby d54_18) ?_
    show own_S p e below T103 m 19 _ [(.int 1), (.int 0), (.ref r0)] _
    refine XS.iadd X103.here hx rfl (hb hby d54_19) rfl ?_
    show own_S p e below T103 m 20 _ [(.int ((0 : Int32) + (1 : Int32))), (.ref r0)] _
    refine reI (by decide : ((0 : Int32) + (1 : Int32)) = (1 : Int32)) ?_
    show own_S p e below T103 m 20 _ [(.int 1), (.ref r0)] _
    refine st104 _ ?_
    show own_S p e below T104 m 23 _ [] _
    refine XS.aloadN X104.here hx rfl (hb hby d54_23) rfl rfl ?_
    show own_S p e below T104 m 24 #[oR r0, oI 0, oR x0] [(.ref x0)] _
    exact retOut X104 hx Bd.returns rfl (Or.inr (Or.inr (Or.inr (Or.inr ⟨rfl, rfl, rfl⟩)))) (hb hby d54_24) hr
  · show Q_ln3_0 Z r0 li A x0 x1 x2 kA wa w4 h0 n0 _ T104.heap _
    rw [e104]
    exact ⟨rfl, N104, KK106, (F_list_r0.other W104 (Or.inr (Ne.symm (sn13 hw)))), (F_size_r0.other W104 (Or.inr (Ne.symm (sn14 hw)))), Fw104, (F_isListIterator_r0.other W104 (Or.inr (sn17 hw)))⟩
theorem ef_ln3_1 (m : MethodId) (r0 : Addr) : entryFrame m #[(.ref r0)] 3 = mkF m 0 #[oR r0, oU, oU] [] := by first | (simp [entryFrame, mkF, argsToLocals, Value.category]; done) | rfl
def Q_ln3_1 (Z : State) (r0 : Addr) (li : Addr) (A : Addr) (x0 : Addr) (x1 : Addr) (x2 : Addr) (kA : ClassId) (wa : Value) (w4 : Value) (h0 : Heap) (n0 : Nat) (v : Option Value) (h : Heap) (L : List Loc) : Prop := v = some (.ref x1) ∧ Fr n0 L ∧ (Keep h0 h [r0]) ∧ (Fld Z h r0 kLIT "list" "Ljava/util/List;" (.ref li)) ∧ (Fld Z h r0 kLIT "size" "I" (.int 3)) ∧ (Fld Z h r0 kLIT "cursor" "I" (.int 2)) ∧ (Fld Z h r0 kLIT "isListIterator" "Z" w4)
set_option maxRecDepth 65536 in
set_option maxHeartbeats 40000000 in
theorem rm_ln3_1 (l : Launch) (Z : State) (a0 : Array Value) (hw : own_HW Z a0) (ws : List Jvm.Cond) (r0 : Addr) (li : Addr) (A : Addr) (x0 : Addr) (x1 : Addr) (x2 : Addr) (kA : ClassId) (wa : Value) (w4 : Value) (h0 : Heap) (n0 : Nat) (Z0 : n0 ≤ h0.size) (E_r0 : Exa Z h0 r0 kLIT) (g_r0 : n0 ≤ r0) (F_list_r0 : Fld Z h0 r0 kLIT "list" "Ljava/util/List;" (.ref li)) (F_size_r0 : Fld Z h0 r0 kLIT "size" "I" (.int 3)) (F_cursor_r0 : Fld Z h0 r0 kLIT "cursor" "I" (.int 1)) (F_isListIterator_r0 : Fld Z h0 r0 kLIT "isListIterator" "Z" w4) (E_li : Exa Z h0 li kLN) (F_elements_li : Fld Z h0 li kLN "elements" kOA (.ref A)) (F_allowNulls_li : Fld Z h0 li kLN "allowNulls" "Z" wa) (V_A : Arv Z h0 A kA (.object kOB) (3 : Int32) [(.ref x0), (.ref x1), (.ref x2)] .null) :
    MetFree l (⟨kLIT, "next", "()Ljava/lang/Object;"⟩ : MethodName) (head1 (Jvm.Cond.codeWith (⟨kLIT, "next", "()Ljava/lang/Object;"⟩ : MethodName) jdk_53_method_4_code 3 (some (.object kOB)) [((0 : Nat), (24 : Nat), (25 : Nat), (30 : Nat))] :: ws) ({ frames := 1, cells := 0, slots := 0, locals := 13 } : Room)) (fun a U => a = #[(.ref r0)] ∧ Z.Warmed39 U.vm ∧ U.heap = h0) (fun _ _ _ _ _ => True) (fun _ U o U' => ∃ v L, o = .returned v ∧ Q_ln3_1 Z r0 li A x0 x1 x2 kA wa w4 h0 n0 v U'.heap L ∧ FrameEnd U o U' L ({ frames := 1, cells := 0, slots := 0, locals := 13 } : Room).cells ({ frames := 1, cells := 0, slots := 0, locals := 13 } : Room).slots) := by
  refine MetFree.of_bodySF (plainFor_of_name pn17) hisWith ?_
  intro p e s m args below meth c s₁ Bd hml0 hP hK
  obtain ⟨rfl, hZ, hh⟩ := hP
  have hx := Bd.exec
  have hby := Bd.bytes
  have hml : c.maxLocals = 3 := hml0
  have hown : s.vm.findClass kLIT = some m.cls := findClass_of_methodNamed Bd.named
  have hnm := (name_of_methodNamed Bd.named Bd.method).1
  have X0 : Stand p l e ({ frames := 1, cells := 0, slots := 0, locals := 13 } : Room) s m #[(.ref r0)] below meth c s₁ [] 0 0 := Stand.of_body Bd
  have e0 : s₁.heap = h0 := by rw [← hh, Bd.state]; rfl
  have N0 := Fr.nil n0
  have pre0 : ∀ t, Steps p.tables e below (s₁.setTop (mkF m 0 #[oR r0, oU, oU] [])) t → Steps p.tables e below (s₁.setTop (entryFrame m #[(.ref r0)] 3)) t := fun t k => castTop (ef_ln3_1 m r0) k
  obtain ⟨T101, X101, e101, st101⟩ := getF X0 hx hZ hown (host := "") (Or.inl (own_w hw 393 rfl)) Via.refl e0 F_cursor_r0 (g := (mkF m 1 #[oR r0, oU, oU] [(.ref r0)])) rfl rfl (hb hby d54_1)
  obtain ⟨T102, X102, e102, st102⟩ := getF X101 hx hZ hown (host := "") (Or.inl (own_w hw 389 rfl)) Via.refl e101 F_list_r0 (g := (mkF m 6 #[oR r0, oI 1, oU] [(.ref r0)])) rfl rfl (hb hby d54_6)
  obtain ⟨_, T103, L103, X103, hQ103, st103⟩ := own_cI X102 hx hZ hw hown (b := li) (W := 0) (rm_gN_1 l Z a0 hw [] li A x0 x1 x2 kA wa h0 n0 Z0 F_elements_li F_allowNulls_li V_A) (by decide) (by decide) (by decide) 408 rfl 119 rfl 120 rfl 412 rfl 413 rfl 414 rfl 415 rfl 353 rfl 416 rfl 273 rfl e102 E_li (g := (mkF m 10 #[oR r0, oI 1, oU] [(.int 1), (.ref li)])) rfl (by rw [hml]; rfl) (argsL := [(.int 1)]) (rest := []) (lenOf pd7 rfl) rfl (Nat.le_of_eq rfl) (hb hby d54_10) rfl (cN := 0) rfl (by decide) (sN := 0) rfl (by decide)
  obtain ⟨rfl, Nq103, P103_0⟩ := hQ103
  have N103 := Fr.app N0 Nq103
  obtain ⟨T104, h104, X104, e104, W104, st104⟩ := putF X103 hx hZ hown (host := "") (Or.inl (own_w hw 393 rfl)) Via.refl P103_0 F_cursor_r0 E_r0 (Or.inl (own_w hw 394 rfl)) (own_w hw 378 rfl) (ty := .int) (by decide) rfl rfl (g := (mkF m 20 #[oR r0, oI 1, oR x1] [(.int 2), (.ref r0)])) rfl rfl (hb hby d54_20)
  have Fw104 := F_cursor_r0.same W104
  have N104 := Fr.snoc X104 N103 g_r0
  have ZZ105 : n0 ≤ h104.size := Nat.le_trans Z0 (Nat.le_of_eq W104.size.symm)
  have KK106 : Keep h0 h104 [r0] := (Keep.refl h0 [r0]).wr W104 (Or.inl (List.mem_of_getElem? (i := 0) rfl))
  obtain ⟨fs, hr, hrun, hended, hW, hsame⟩ := X104.leave (v := some (.ref x1)) (fun h => by rw [Bd.returns] at h; cases h)
  refine ⟨_, _, pre0 _ ?_, hrun, hended, _, _, rfl, ?_, ⟨_, rfl⟩, hW, hsame.mono (by decide) (by decide)⟩
  · show own_S p e below s₁ m 0 #[oR r0, oU, oU] [] _
    refine XS.aloadN X0.here hx rfl (hb hby d54_0) rfl rfl ?_
    show own_S p e below s₁ m 1 _ [(.ref r0)] _
    refine st101 _ ?_
    show own_S p e below T101 m 4 _ [(.int 1)] _
    refine XS.istoreN X101.here hx rfl (hb hby d54_4) rfl (l' := #[oR r0, oI 1, oU]) rfl ?_
    refine XS.aloadN X101.here hx rfl (hb hby d54_5) rfl rfl ?_
    show own_S p e below T101 m 6 _ [(.ref r0)] _
    refine st102 _ ?_
    show own_S p e below T102 m 9 _ [(.ref li)] _
    refine XS.iloadN X102.here hx rfl (hb hby d54_9) rfl ?_
    show own_S p e below T102 m 10 _ [(.int 1), (.ref li)] _
    refine st103.trans ?_
    show own_S p e below T103 m 15 _ [(.ref x1)] _
    refine XS.astoreN X103.here hx rfl (hb hby d54_15) rfl rfl (l' := #[oR r0, oI 1, oR x1]) rfl ?_
    refine XS.aloadN X103.here hx rfl (hb hby d54_16) rfl rfl ?_
    refine XS.iloadN X103.here hx rfl (hb hby d54_17) rfl ?_
    refine XS.iconst X103.here hx rfl (hb hby d54_18) ?_
    show own_S p e below T103 m 19 _ [(.int 1), (.int 1), (.ref r0)] _
    refine XS.iadd X103.here hx rfl (hb hby d54_19) rfl ?_
    show own_S p e below T103 m 20 _ [(.int ((1 : Int32) + (1 : Int32))), (.ref r0)] _
    refine reI (by decide : ((1 : Int32) + (1 : Int32)) = (2 : Int32)) ?_
    show own_S p e below T103 m 20 _ [(.int 2), (.ref r0)] _
    refine st104 _ ?_
    show own_S p e below T104 m 23 _ [] _
    refine XS.aloadN X104.here hx rfl (hb hby d54_23) rfl rfl ?_
    show own_S p e below T104 m 24 #[oR r0, oI 1, oR x1] [(.ref x1)] _
    exact retOut X104 hx Bd.returns rfl (Or.inr (Or.inr (Or.inr (Or.inr ⟨rfl, rfl, rfl⟩)))) (hb hby d54_24) hr
  · show Q_ln3_1 Z r0 li A x0 x1 x2 kA wa w4 h0 n0 _ T104.heap _
    rw [e104]
    exact ⟨rfl, N104, KK106, (F_list_r0.other W104 (Or.inr (Ne.symm (sn13 hw)))), (F_size_r0.other W104 (Or.inr (Ne.symm (sn14 hw)))), Fw104, (F_isListIterator_r0.other W104 (Or.inr (sn17 hw)))⟩
theorem ef_ln3_2 (m : MethodId) (r0 : Addr) : entryFrame m #[(.ref r0)] 3 = mkF m 0 #[oR r0, oU, oU] [] := by first | (simp [entryFrame, mkF, argsToLocals, Value.category]; done) | rfl
def Q_ln3_2 (Z : State) (r0 : Addr) (li : Addr) (A : Addr) (x0 : Addr) (x1 : Addr) (x2 : Addr) (kA : ClassId) (wa : Value) (w4 : Value) (h0 : Heap) (n0 : Nat) (v : Option Value) (h : Heap) (L : List Loc) : Prop := v = some (.ref x2) ∧ Fr n0 L ∧ (Keep h0 h [r0]) ∧ (Fld Z h r0 kLIT "list" "Ljava/util/List;" (.ref li)) ∧ (Fld Z h r0 kLIT "size" "I" (.int 3)) ∧ (Fld Z h r0 kLIT "cursor" "I" (.int 3)) ∧ (Fld Z h r0 kLIT "isListIterator" "Z" w4)
set_option maxRecDepth 65536 in
set_option maxHeartbeats 40000000 in
theorem rm_ln3_2 (l : Launch) (Z : State) (a0 : Array Value) (hw : own_HW Z a0) (ws : List Jvm.Cond) (r0 : Addr) (li : Addr) (A : Addr) (x0 : Addr) (x1 : Addr) (x2 : Addr) (kA : ClassId) (wa : Value) (w4 : Value) (h0 : Heap) (n0 : Nat) (Z0 : n0 ≤ h0.size) (E_r0 : Exa Z h0 r0 kLIT) (g_r0 : n0 ≤ r0) (F_list_r0 : Fld Z h0 r0 kLIT "list" "Ljava/util/List;" (.ref li)) (F_size_r0 : Fld Z h0 r0 kLIT "size" "I" (.int 3)) (F_cursor_r0 : Fld Z h0 r0 kLIT "cursor" "I" (.int 2)) (F_isListIterator_r0 : Fld Z h0 r0 kLIT "isListIterator" "Z" w4) (E_li : Exa Z h0 li kLN) (F_elements_li : Fld Z h0 li kLN "elements" kOA (.ref A)) (F_allowNulls_li : Fld Z h0 li kLN "allowNulls" "Z" wa) (V_A : Arv Z h0 A kA (.object kOB) (3 : Int32) [(.ref x0), (.ref x1), (.ref x2)] .null) :
    MetFree l (⟨kLIT, "next", "()Ljava/lang/Object;"⟩ : MethodName) (head1 (Jvm.Cond.codeWith (⟨kLIT, "next", "()Ljava/lang/Object;"⟩ : MethodName) jdk_53_method_4_code 3 (some (.object kOB)) [((0 : Nat), (24 : Nat), (25 : Nat), (30 : Nat))] :: ws) ({ frames := 1, cells := 0, slots := 0, locals := 13 } : Room)) (fun a U => a = #[(.ref r0)] ∧ Z.Warmed39 U.vm ∧ U.heap = h0) (fun _ _ _ _ _ => True) (fun _ U o U' => ∃ v L, o = .returned v ∧ Q_ln3_2 Z r0 li A x0 x1 x2 kA wa w4 h0 n0 v U'.heap L ∧ FrameEnd U o U' L ({ frames := 1, cells := 0, slots := 0, locals := 13 } : Room).cells ({ frames := 1, cells := 0, slots := 0, locals := 13 } : Room).slots) := by
  refine MetFree.of_bodySF (plainFor_of_name pn17) hisWith ?_
  intro p e s m args below meth c s₁ Bd hml0 hP hK
  obtain ⟨rfl, hZ, hh⟩ := hP
  have hx := Bd.exec
  have hby := Bd.bytes
  have hml : c.maxLocals = 3 := hml0
  have hown : s.vm.findClass kLIT = some m.cls := findClass_of_methodNamed Bd.named
  have hnm := (name_of_methodNamed Bd.named Bd.method).1
  have X0 : Stand p l e ({ frames := 1, cells := 0, slots := 0, locals := 13 } : Room) s m #[(.ref r0)] below meth c s₁ [] 0 0 := Stand.of_body Bd
  have e0 : s₁.heap = h0 := by rw [← hh, Bd.state]; rfl
  have N0 := Fr.nil n0
  have pre0 : ∀ t, Steps p.tables e below (s₁.setTop (mkF m 0 #[oR r0, oU, oU] [])) t → Steps p.tables e below (s₁.setTop (entryFrame m #[(.ref r0)] 3)) t := fun t k => castTop (ef_ln3_2 m r0) k
  obtain ⟨T101, X101, e101, st101⟩ := getF X0 hx hZ hown (host := "") (Or.inl (own_w hw 393 rfl)) Via.refl e0 F_cursor_r0 (g := (mkF m 1 #[oR r0, oU, oU] [(.ref r0)])) rfl rfl (hb hby d54_1)
  obtain ⟨T102, X102, e102, st102⟩ := getF X101 hx hZ hown (host := "") (Or.inl (own_w hw 389 rfl)) Via.refl e101 F_list_r0 (g := (mkF m 6 #[oR r0, oI 2, oU] [(.ref r0)])) rfl rfl (hb hby d54_6)
  obtain ⟨_, T103, L103, X103, hQ103, st103⟩ := own_cI X102 hx hZ hw hown (b := li) (W := 0) (rm_gN_2 l Z a0 hw [] li A x0 x1 x2 kA wa h0 n0 Z0 F_elements_li F_allowNulls_li V_A) (by decide) (by decide) (by decide) 408 rfl 119 rfl 120 rfl 412 rfl 413 rfl 414 rfl 415 rfl 353 rfl 416 rfl 273 rfl e102 E_li (g := (mkF m 10 #[oR r0, oI 2, oU] [(.int 2), (.ref li)])) rfl (by rw [hml]; rfl) (argsL := [(.int 2)]) (rest := []) (lenOf pd7 rfl) rfl (Nat.le_of_eq rfl) (hb hby d54_10) rfl (cN := 0) rfl (by decide) (sN := 0) rfl (by decide)
  obtain ⟨rfl, Nq103, P103_0⟩ := hQ103
  have N103 := Fr.app N0 Nq103
  obtain ⟨T104, h104, X104, e104, W104, st104⟩ := putF X103 hx hZ hown (host := "") (Or.inl (own_w hw 393 rfl)) Via.refl P103_0 F_cursor_r0 E_r0 (Or.inl (own_w hw 394 rfl)) (own_w hw 378 rfl) (ty := .int) (by decide) rfl rfl (g := (mkF m 20 #[oR r0, oI 2, oR x2] [(.int 3), (.ref r0)])) rfl rfl (hb hby d54_20)
  have Fw104 := F_cursor_r0.same W104
  have N104 := Fr.snoc X104 N103 g_r0
  have ZZ105 : n0 ≤ h104.size := Nat.le_trans Z0 (Nat.le_of_eq W104.size.symm)
  have KK106 : Keep h0 h104 [r0] := (Keep.refl h0 [r0]).wr W104 (Or.inl (List.mem_of_getElem? (i := 0) rfl))
  obtain ⟨fs, hr, hrun, hended, hW, hsame⟩ := X104.leave (v := some (.ref x2)) (fun h => by rw [Bd.returns] at h; cases h)
  refine ⟨_, _, pre0 _ ?_, hrun, hended, _, _, rfl, ?_, ⟨_, rfl⟩, hW, hsame.mono (by decide) (by decide)⟩
  · show own_S p e below s₁ m 0 #[oR r0, oU, oU] [] _
    refine XS.aloadN X0.here hx rfl (hb hby d54_0) rfl rfl ?_
    show own_S p e below s₁ m 1 _ [(.ref r0)] _
    refine st101 _ ?_
    show own_S p e below T101 m 4 _ [(.int 2)] _
    refine XS.istoreN X101.here hx rfl (hb hby d54_4) rfl (l' := #[oR r0, oI 2, oU]) rfl ?_
    refine XS.aloadN X101.here hx rfl (hb hby d54_5) rfl rfl ?_
    show own_S p e below T101 m 6 _ [(.ref r0)] _
    refine st102 _ ?_
    show own_S p e below T102 m 9 _ [(.ref li)] _
    refine XS.iloadN X102.here hx rfl (hb hby d54_9) rfl ?_
    show own_S p e below T102 m 10 _ [(.int 2), (.ref li)] _
    refine st103.trans ?_
    show own_S p e below T103 m 15 _ [(.ref x2)] _
    refine XS.astoreN X103.here hx rfl (hb hby d54_15) rfl rfl (l' := #[oR r0, oI 2, oR x2]) rfl ?_
    refine XS.aloadN X103.here hx rfl (hb hby d54_16) rfl rfl ?_
    refine XS.iloadN X103.here hx rfl (hb hby d54_17) rfl ?_
    refine XS.iconst X103.here hx rfl (hb hby d54_18) ?_
    show own_S p e below T103 m 19 _ [(.int 1), (.int 2), (.ref r0)] _
    refine XS.iadd X103.here hx rfl (hb hby d54_19) rfl ?_
    show own_S p e below T103 m 20 _ [(.int ((2 : Int32) + (1 : Int32))), (.ref r0)] _
    refine reI (by decide : ((2 : Int32) + (1 : Int32)) = (3 : Int32)) ?_
    show own_S p e below T103 m 20 _ [(.int 3), (.ref r0)] _
    refine st104 _ ?_
    show own_S p e below T104 m 23 _ [] _
    refine XS.aloadN X104.here hx rfl (hb hby d54_23) rfl rfl ?_
    show own_S p e below T104 m 24 #[oR r0, oI 2, oR x2] [(.ref x2)] _
    exact retOut X104 hx Bd.returns rfl (Or.inr (Or.inr (Or.inr (Or.inr ⟨rfl, rfl, rfl⟩)))) (hb hby d54_24) hr
  · show Q_ln3_2 Z r0 li A x0 x1 x2 kA wa w4 h0 n0 _ T104.heap _
    rw [e104]
    exact ⟨rfl, N104, KK106, (F_list_r0.other W104 (Or.inr (Ne.symm (sn13 hw)))), (F_size_r0.other W104 (Or.inr (Ne.symm (sn14 hw)))), Fw104, (F_isListIterator_r0.other W104 (Or.inr (sn17 hw)))⟩
theorem d46_0 : decode prog_29_method_7_code 0 = .ok (.aload_n 0, 1) := by decide +kernel
theorem d46_1 : decode prog_29_method_7_code 1 = .ok (.getfield 85, 3) := by decide +kernel
theorem d46_4 : decode prog_29_method_7_code 4 = .ok (.areturn, 1) := by decide +kernel
theorem efm46 (m : MethodId) (r0 : Addr) : entryFrame m #[(.ref r0)] 1 = mkF m 0 #[oR r0] [] := by first | (simp [entryFrame, mkF, argsToLocals, Value.category]; done) | rfl
def Qm46 (Z : State) (r0 : Addr) (LL : Addr) (wn : Value) (h0 : Heap) (n0 : Nat) (v : Option Value) (h : Heap) (L : List Loc) : Prop := v = some (.ref LL) ∧ Fr n0 L ∧ (h = h0)
set_option maxRecDepth 65536 in
set_option maxHeartbeats 40000000 in
theorem rmm46 (l : Launch) (Z : State) (a0 : Array Value) (hw : own_HW Z a0) (ws : List Jvm.Cond) (r0 : Addr) (LL : Addr) (wn : Value) (h0 : Heap) (n0 : Nat) (Z0 : n0 ≤ h0.size) (F_name_r0 : Fld Z h0 r0 kMO "name" "Ljava/lang/String;" wn) (F_vectors_r0 : Fld Z h0 r0 kMO "vectors" "Ljava/util/List;" (.ref LL)) :
    MetFree l (⟨kMO, "vectors", "()Ljava/util/List;"⟩ : MethodName) (head1 (Jvm.Cond.code (⟨kMO, "vectors", "()Ljava/util/List;"⟩ : MethodName) prog_29_method_7_code 1 (some (.object "java/util/List")) :: ws) ({ frames := 0, cells := 0, slots := 0, locals := 0 } : Room)) (fun a U => a = #[(.ref r0)] ∧ Z.Warmed39 U.vm ∧ U.heap = h0) (fun _ _ _ _ _ => True) (fun _ U o U' => ∃ v L, o = .returned v ∧ Qm46 Z r0 LL wn h0 n0 v U'.heap L ∧ FrameEnd U o U' L ({ frames := 0, cells := 0, slots := 0, locals := 0 } : Room).cells ({ frames := 0, cells := 0, slots := 0, locals := 0 } : Room).slots) := by
  refine MetFree.of_bodySF (plainFor_of_name pn16) hisR ?_
  intro p e s m args below meth c s₁ Bd hml0 hP hK
  obtain ⟨rfl, hZ, hh⟩ := hP
  have hx := Bd.exec
  have hby := Bd.bytes
  have hml : c.maxLocals = 1 := hml0
  have hown : s.vm.findClass kMO = some m.cls := findClass_of_methodNamed Bd.named
  have hnm := (name_of_methodNamed Bd.named Bd.method).1
  have X0 : Stand p l e ({ frames := 0, cells := 0, slots := 0, locals := 0 } : Room) s m #[(.ref r0)] below meth c s₁ [] 0 0 := Stand.of_body Bd
  have e0 : s₁.heap = h0 := by rw [← hh, Bd.state]; rfl
  have N0 := Fr.nil n0
  have pre0 : ∀ t, Steps p.tables e below (s₁.setTop (mkF m 0 #[oR r0] [])) t → Steps p.tables e below (s₁.setTop (entryFrame m #[(.ref r0)] 1)) t := fun t k => castTop (efm46 m r0) k
  obtain ⟨T101, X101, e101, st101⟩ := getF X0 hx hZ hown (host := "") (Or.inl (own_w hw 316 rfl)) Via.refl e0 F_vectors_r0 (g := (mkF m 1 #[oR r0] [(.ref r0)])) rfl rfl (hb hby d46_1)
  obtain ⟨fs, hr, hrun, hended, hW, hsame⟩ := X101.leave (v := some (.ref LL)) (fun h => by rw [Bd.returns] at h; cases h)
  refine ⟨_, _, pre0 _ ?_, hrun, hended, _, _, rfl, ?_, ⟨_, rfl⟩, hW, hsame.mono (by decide) (by decide)⟩
  · show own_S p e below s₁ m 0 #[oR r0] [] _
    refine XS.aloadN X0.here hx rfl (hb hby d46_0) rfl rfl ?_
    show own_S p e below s₁ m 1 _ [(.ref r0)] _
    refine st101 _ ?_
    show own_S p e below T101 m 4 _ [(.ref LL)] _
    exact retOut X101 hx Bd.returns rfl (Or.inr (Or.inr (Or.inr (Or.inr ⟨rfl, rfl, rfl⟩)))) (hb hby d46_4) hr
  · show Qm46 Z r0 LL wn h0 n0 _ T101.heap _
    rw [e101]
    exact ⟨rfl, N0, rfl⟩
theorem d50_0 : decode k50 0 = .ok (.lload_n 0, 1) := by decide +kernel
theorem d50_1 : decode k50 1 = .ok (.l2i, 1) := by decide +kernel
theorem d50_2 : decode k50 2 = .ok (.i2l, 1) := by decide +kernel
theorem d50_3 : decode k50 3 = .ok (.lload_n 0, 1) := by decide +kernel
theorem d50_4 : decode k50 4 = .ok (.lcmp, 1) := by decide +kernel
theorem d50_5 : decode k50 5 = .ok (.ifCond .eq 13, 3) := by decide +kernel
theorem d50_18 : decode k50 18 = .ok (.lload_n 0, 1) := by decide +kernel
theorem d50_19 : decode k50 19 = .ok (.l2i, 1) := by decide +kernel
theorem d50_20 : decode k50 20 = .ok (.ireturn, 1) := by decide +kernel
theorem efm50 (m : MethodId)  : entryFrame m #[(.long (6 : Int64))] 2 = mkF m 0 #[oJ (6 : Int64), oV] [] := by first | (simp [entryFrame, mkF, argsToLocals, Value.category]; done) | rfl
def Qm50 (Z : State)  (h0 : Heap) (n0 : Nat) (v : Option Value) (h : Heap) (L : List Loc) : Prop := v = some (.int 6) ∧ Fr n0 L ∧ (h = h0)
set_option maxRecDepth 65536 in
set_option maxHeartbeats 40000000 in
theorem rmm50 (l : Launch) (Z : State) (a0 : Array Value) (hw : own_HW Z a0) (ws : List Jvm.Cond)  (h0 : Heap) (n0 : Nat) (Z0 : n0 ≤ h0.size)  :
    MetFree l (⟨"java/lang/Math", "toIntExact", "(J)I"⟩ : MethodName) (head1 (Jvm.Cond.code (⟨"java/lang/Math", "toIntExact", "(J)I"⟩ : MethodName) jdk_29_method_43_code 2 (some .int) :: ws) ({ frames := 0, cells := 0, slots := 0, locals := 0 } : Room)) (fun a U => a = #[(.long (6 : Int64))] ∧ Z.Warmed39 U.vm ∧ U.heap = h0) (fun _ _ _ _ _ => True) (fun _ U o U' => ∃ v L, o = .returned v ∧ Qm50 Z  h0 n0 v U'.heap L ∧ FrameEnd U o U' L ({ frames := 0, cells := 0, slots := 0, locals := 0 } : Room).cells ({ frames := 0, cells := 0, slots := 0, locals := 0 } : Room).slots) := by
  refine MetFree.of_bodySF (Jvm.Free.JP.mathPlain rfl (by decide +kernel)) hisR ?_
  intro p e s m args below meth c s₁ Bd hml0 hP hK
  obtain ⟨rfl, hZ, hh⟩ := hP
  have hx := Bd.exec
  have hby := Bd.bytes
  have hml : c.maxLocals = 2 := hml0
  have hown : s.vm.findClass "java/lang/Math" = some m.cls := findClass_of_methodNamed Bd.named
  have hnm := (name_of_methodNamed Bd.named Bd.method).1
  have X0 : Stand p l e ({ frames := 0, cells := 0, slots := 0, locals := 0 } : Room) s m #[(.long (6 : Int64))] below meth c s₁ [] 0 0 := Stand.of_body Bd
  have e0 : s₁.heap = h0 := by rw [← hh, Bd.state]; rfl
  have N0 := Fr.nil n0
  have pre0 : ∀ t, Steps p.tables e below (s₁.setTop (mkF m 0 #[oJ (6 : Int64), oV] [])) t → Steps p.tables e below (s₁.setTop (entryFrame m #[(.long (6 : Int64))] 2)) t := fun t k => castTop (efm50 m ) k
  obtain ⟨fs, hr, hrun, hended, hW, hsame⟩ := X0.leave (v := some (.int 6)) (fun h => by rw [Bd.returns] at h; cases h)
  refine ⟨_, _, pre0 _ ?_, hrun, hended, _, _, rfl, ?_, ⟨_, rfl⟩, hW, hsame.mono (by decide) (by decide)⟩
  · show own_S p e below s₁ m 0 #[oJ (6 : Int64), oV] [] _
    refine XS.lloadN X0.here hx rfl (hb hby d50_0) rfl ?_
    show own_S p e below s₁ m 1 _ [(.long (6 : Int64))] _
    refine XS.l2i X0.here hx rfl (hb hby d50_1) rfl ?_
    show own_S p e below s₁ m 2 _ [(.int ((6 : Int64).toInt32))] _
    refine XS.i2l X0.here hx rfl (hb hby d50_2) rfl ?_
    show own_S p e below s₁ m 3 _ [(.long (((6 : Int64).toInt32).toInt64))] _
    refine XS.lloadN X0.here hx rfl (hb hby d50_3) rfl ?_
    show own_S p e below s₁ m 4 _ [(.long (6 : Int64)), (.long (((6 : Int64).toInt32).toInt64))] _
    refine XS.lcmp X0.here hx rfl (hb hby d50_4) rfl ?_
    show own_S p e below s₁ m 5 _ [(.int (lcmpW (((6 : Int64).toInt32).toInt64) (6 : Int64)))] _
    refine XS.ifYes X0.here hx rfl (pc0 := 5) (pc' := 18) rfl (hb hby d50_5) rfl ((if0 _ _).trans (teq (by decide : (lcmpW (((6 : Int64).toInt32).toInt64) (6 : Int64)) = (0 : Int32))).1) (by decide) (by decide) ?_
    refine XS.lloadN X0.here hx rfl (hb hby d50_18) rfl ?_
    show own_S p e below s₁ m 19 #[oJ (6 : Int64), oV] [(.long (6 : Int64))] _
    refine XS.l2i X0.here hx rfl (hb hby d50_19) rfl ?_
    show own_S p e below s₁ m 20 _ [(.int ((6 : Int64).toInt32))] _
    refine reI ((by decide) : ((6 : Int64).toInt32) = (6 : Int32)) ?_
    show own_S p e below s₁ m 20 _ [(.int 6)] _
    exact retOut X0 hx Bd.returns rfl (Or.inl ⟨rfl, Or.inl rfl, _, rfl⟩) (hb hby d50_20) hr
  · show Qm50 Z  h0 n0 _ s₁.heap _
    rw [e0]
    exact ⟨rfl, N0, rfl⟩
theorem d56_0 : decode k56 0 = .ok (.dconst 0, 1) := by decide +kernel
theorem d56_1 : decode k56 1 = .ok (.dstore_n 2, 1) := by decide +kernel
theorem d56_2 : decode k56 2 = .ok (.iconst 0, 1) := by decide +kernel
theorem d56_3 : decode k56 3 = .ok (.istore 4, 2) := by decide +kernel
theorem d56_5 : decode k56 5 = .ok (.iload 4, 2) := by decide +kernel
theorem d56_7 : decode k56 7 = .ok (.aload_n 0, 1) := by decide +kernel
theorem d56_8 : decode k56 8 = .ok (.getfield 36, 3) := by decide +kernel
theorem d56_11 : decode k56 11 = .ok (.if_icmp .ge 26, 3) := by decide +kernel
theorem d56_14 : decode k56 14 = .ok (.dload_n 2, 1) := by decide +kernel
theorem d56_15 : decode k56 15 = .ok (.aload_n 0, 1) := by decide +kernel
theorem d56_16 : decode k56 16 = .ok (.getfield 47, 3) := by decide +kernel
theorem d56_19 : decode k56 19 = .ok (.iload_n 1, 1) := by decide +kernel
theorem d56_20 : decode k56 20 = .ok (.aload_n 0, 1) := by decide +kernel
theorem d56_21 : decode k56 21 = .ok (.getfield 36, 3) := by decide +kernel
theorem d56_24 : decode k56 24 = .ok (.imul, 1) := by decide +kernel
theorem d56_25 : decode k56 25 = .ok (.iload 4, 2) := by decide +kernel
theorem d56_27 : decode k56 27 = .ok (.iadd, 1) := by decide +kernel
theorem d56_28 : decode k56 28 = .ok (.daload, 1) := by decide +kernel
theorem d56_29 : decode k56 29 = .ok (.dadd, 1) := by decide +kernel
theorem d56_30 : decode k56 30 = .ok (.dstore_n 2, 1) := by decide +kernel
theorem d56_31 : decode k56 31 = .ok (.iinc 4 1, 3) := by decide +kernel
theorem d56_34 : decode k56 34 = .ok (.goto (-29), 3) := by decide +kernel
theorem d56_37 : decode k56 37 = .ok (.dload_n 2, 1) := by decide +kernel
theorem d56_38 : decode k56 38 = .ok (.dreturn, 1) := by decide +kernel
theorem pn18 : plainName kIV = true := by first | (simp [plainName, overriddenIn]; done) | decide +kernel
theorem efm56 (m : MethodId) (r0 : Addr) (p1 : Int32) : entryFrame m #[(.ref r0), (.int p1)] 5 = mkF m 0 #[oR r0, oI p1, oU, oU, oU] [] := by first | (simp [entryFrame, mkF, argsToLocals, Value.category]; done) | rfl
def Qm56 (Z : State) (r0 : Addr) (p1 : Int32) (va : Addr) (kva : ClassId) (vs : List Value) (y0 : UInt64) (y1 : UInt64) (y2 : UInt64) (h0 : Heap) (n0 : Nat) (v : Option Value) (h : Heap) (L : List Loc) : Prop := v = some (.double (FP.dadd (FP.dadd (FP.dadd (0 : UInt64) y0) y1) y2)) ∧ Fr n0 L ∧ (h = h0)
set_option maxRecDepth 65536 in
set_option maxHeartbeats 40000000 in
theorem rmm56 (l : Launch) (Z : State) (a0 : Array Value) (hw : own_HW Z a0) (ws : List Jvm.Cond) (r0 : Addr) (p1 : Int32) (va : Addr) (kva : ClassId) (vs : List Value) (y0 : UInt64) (y1 : UInt64) (y2 : UInt64) (h0 : Heap) (n0 : Nat) (Z0 : n0 ≤ h0.size) (E_r0 : Exa Z h0 r0 kIV) (F_dimension_r0 : Fld Z h0 r0 kIV "dimension" "I" (.int 3)) (F_values_r0 : Fld Z h0 r0 kIV "values" "[D" (.ref va)) (V_va : Arv Z h0 va kva .double (6 : Int32) vs (.double 0)) (hi0 : ¬ ((p1 * (3 : Int32)) + (0 : Int32)) < (0 : Int32) ∧ ((p1 * (3 : Int32)) + (0 : Int32)) < (6 : Int32)) (hg0 : vs.getD (((p1 * (3 : Int32)) + (0 : Int32))).toNatClampNeg (.double 0) = .double y0) (hi1 : ¬ ((p1 * (3 : Int32)) + (1 : Int32)) < (0 : Int32) ∧ ((p1 * (3 : Int32)) + (1 : Int32)) < (6 : Int32)) (hg1 : vs.getD (((p1 * (3 : Int32)) + (1 : Int32))).toNatClampNeg (.double 0) = .double y1) (hi2 : ¬ ((p1 * (3 : Int32)) + (2 : Int32)) < (0 : Int32) ∧ ((p1 * (3 : Int32)) + (2 : Int32)) < (6 : Int32)) (hg2 : vs.getD (((p1 * (3 : Int32)) + (2 : Int32))).toNatClampNeg (.double 0) = .double y2) (hs0 : NoNaN64 (FP.dadd (0 : UInt64) y0)) (hs1 : NoNaN64 (FP.dadd (FP.dadd (0 : UInt64) y0) y1)) (hs2 : NoNaN64 (FP.dadd (FP.dadd (FP.dadd (0 : UInt64) y0) y1) y2)) :
    MetFree l (⟨kIV, "sumOf", "(I)D"⟩ : MethodName) (head1 (Jvm.Cond.code (⟨kIV, "sumOf", "(I)D"⟩ : MethodName) prog_26_method_14_code 5 (some .double) :: ws) ({ frames := 0, cells := 0, slots := 0, locals := 0 } : Room)) (fun a U => a = #[(.ref r0), (.int p1)] ∧ Z.Warmed39 U.vm ∧ U.heap = h0) (fun _ _ _ _ _ => True) (fun _ U o U' => ∃ v L, o = .returned v ∧ Qm56 Z r0 p1 va kva vs y0 y1 y2 h0 n0 v U'.heap L ∧ FrameEnd U o U' L ({ frames := 0, cells := 0, slots := 0, locals := 0 } : Room).cells ({ frames := 0, cells := 0, slots := 0, locals := 0 } : Room).slots) := by
  refine MetFree.of_bodySF (plainFor_of_name pn18) hisR ?_
  intro p e s m args below meth c s₁ Bd hml0 hP hK
  obtain ⟨rfl, hZ, hh⟩ := hP
  have hx := Bd.exec
  have hby := Bd.bytes
  have hml : c.maxLocals = 5 := hml0
  have hown : s.vm.findClass kIV = some m.cls := findClass_of_methodNamed Bd.named
  have hnm := (name_of_methodNamed Bd.named Bd.method).1
  have X0 : Stand p l e ({ frames := 0, cells := 0, slots := 0, locals := 0 } : Room) s m #[(.ref r0), (.int p1)] below meth c s₁ [] 0 0 := Stand.of_body Bd
  have e0 : s₁.heap = h0 := by rw [← hh, Bd.state]; rfl
  have N0 := Fr.nil n0
  have pre0 : ∀ t, Steps p.tables e below (s₁.setTop (mkF m 0 #[oR r0, oI p1, oU, oU, oU] [])) t → Steps p.tables e below (s₁.setTop (entryFrame m #[(.ref r0), (.int p1)] 5)) t := fun t k => castTop (efm56 m r0 p1) k
  obtain ⟨T101, X101, e101, st101⟩ := getF X0 hx hZ hown (host := "") (Or.inl (own_w hw 359 rfl)) Via.refl e0 F_dimension_r0 (g := (mkF m 8 #[oR r0, oI p1, oD 0, oV, oI 0] [(.ref r0), (.int 0)])) rfl rfl (hb hby d56_8)
  obtain ⟨T102, X102, e102, st102⟩ := getF X101 hx hZ hown (host := "") (Or.inl (own_w hw 367 rfl)) Via.refl e101 F_values_r0 (g := (mkF m 16 #[oR r0, oI p1, oD 0, oV, oI 0] [(.ref r0), (.double 0)])) rfl rfl (hb hby d56_16)
  obtain ⟨T103, X103, e103, st103⟩ := getF X102 hx hZ hown (host := "") (Or.inl (own_w hw 359 rfl)) Via.refl e102 F_dimension_r0 (g := (mkF m 21 #[oR r0, oI p1, oD 0, oV, oI 0] [(.ref r0), (.int p1), (.ref va), (.double 0)])) rfl rfl (hb hby d56_21)
  obtain ⟨cl104, Ar104, qk104, Sz104, Nz104, Hh104, Gg104⟩ := id V_va
  have hin105 : ¬ (((p1 * (3 : Int32)) + (0 : Int32)) < 0 ∨ cl104.slots.size ≤ (((p1 * (3 : Int32)) + (0 : Int32))).toNatClampNeg) := inb_of Sz104 hi0
  have hat105 : cl104.slots[(((p1 * (3 : Int32)) + (0 : Int32))).toNatClampNeg]? = some (.double y0) := Has.at Hh104 hin105 hg0
  obtain ⟨T106, X106, e106, st106⟩ := getF X103 hx hZ hown (host := "") (Or.inl (own_w hw 359 rfl)) Via.refl e103 F_dimension_r0 (g := (mkF m 8 #[oR r0, oI p1, .val (.double (FP.dadd (0 : UInt64) y0)), oV, oI 1] [(.ref r0), (.int 1)])) rfl rfl (hb hby d56_8)
  obtain ⟨T107, X107, e107, st107⟩ := getF X106 hx hZ hown (host := "") (Or.inl (own_w hw 367 rfl)) Via.refl e106 F_values_r0 (g := (mkF m 16 #[oR r0, oI p1, .val (.double (FP.dadd (0 : UInt64) y0)), oV, oI 1] [(.ref r0), (.double (FP.dadd (0 : UInt64) y0))])) rfl rfl (hb hby d56_16)
  obtain ⟨T108, X108, e108, st108⟩ := getF X107 hx hZ hown (host := "") (Or.inl (own_w hw 359 rfl)) Via.refl e107 F_dimension_r0 (g := (mkF m 21 #[oR r0, oI p1, .val (.double (FP.dadd (0 : UInt64) y0)), oV, oI 1] [(.ref r0), (.int p1), (.ref va), (.double (FP.dadd (0 : UInt64) y0))])) rfl rfl (hb hby d56_21)
  have hin109 : ¬ (((p1 * (3 : Int32)) + (1 : Int32)) < 0 ∨ cl104.slots.size ≤ (((p1 * (3 : Int32)) + (1 : Int32))).toNatClampNeg) := inb_of Sz104 hi1
  have hat109 : cl104.slots[(((p1 * (3 : Int32)) + (1 : Int32))).toNatClampNeg]? = some (.double y1) := Has.at Hh104 hin109 hg1
  obtain ⟨T110, X110, e110, st110⟩ := getF X108 hx hZ hown (host := "") (Or.inl (own_w hw 359 rfl)) Via.refl e108 F_dimension_r0 (g := (mkF m 8 #[oR r0, oI p1, .val (.double (FP.dadd (FP.dadd (0 : UInt64) y0) y1)), oV, oI 2] [(.ref r0), (.int 2)])) rfl rfl (hb hby d56_8)
  obtain ⟨T111, X111, e111, st111⟩ := getF X110 hx hZ hown (host := "") (Or.inl (own_w hw 367 rfl)) Via.refl e110 F_values_r0 (g := (mkF m 16 #[oR r0, oI p1, .val (.double (FP.dadd (FP.dadd (0 : UInt64) y0) y1)), oV, oI 2] [(.ref r0), (.double (FP.dadd (FP.dadd (0 : UInt64) y0) y1))])) rfl rfl (hb hby d56_16)
  obtain ⟨T112, X112, e112, st112⟩ := getF X111 hx hZ hown (host := "") (Or.inl (own_w hw 359 rfl)) Via.refl e111 F_dimension_r0 (g := (mkF m 21 #[oR r0, oI p1, .val (.double (FP.dadd (FP.dadd (0 : UInt64) y0) y1)), oV, oI 2] [(.ref r0), (.int p1), (.ref va), (.double (FP.dadd (FP.dadd (0 : UInt64) y0) y1))])) rfl rfl (hb hby d56_21)
  have hin113 : ¬ (((p1 * (3 : Int32)) + (2 : Int32)) < 0 ∨ cl104.slots.size ≤ (((p1 * (3 : Int32)) + (2 : Int32))).toNatClampNeg) := inb_of Sz104 hi2
  have hat113 : cl104.slots[(((p1 * (3 : Int32)) + (2 : Int32))).toNatClampNeg]? = some (.double y2) := Has.at Hh104 hin113 hg2
  obtain ⟨T114, X114, e114, st114⟩ := getF X112 hx hZ hown (host := "") (Or.inl (own_w hw 359 rfl)) Via.refl e112 F_dimension_r0 (g := (mkF m 8 #[oR r0, oI p1, .val (.double (FP.dadd (FP.dadd (FP.dadd (0 : UInt64) y0) y1) y2)), oV, oI 3] [(.ref r0), (.int 3)])) rfl rfl (hb hby d56_8)
  obtain ⟨fs, hr, hrun, hended, hW, hsame⟩ := X114.leave (v := some (.double (FP.dadd (FP.dadd (FP.dadd (0 : UInt64) y0) y1) y2))) (fun h => by rw [Bd.returns] at h; cases h)
  refine ⟨_, _, pre0 _ ?_, hrun, hended, _, _, rfl, ?_, ⟨_, rfl⟩, hW, hsame.mono (by decide) (by decide)⟩
  · show own_S p e below s₁ m 0 #[oR r0, oI p1, oU, oU, oU] [] _
    refine XS.dconst0 X0.here hx rfl (v := 0) (hb hby d56_0) rfl ?_
    refine XS.dstoreN X0.here hx rfl (hb hby d56_1) rfl (l' := #[oR r0, oI p1, oD 0, oV, oU]) rfl ?_
    refine XS.iconst X0.here hx rfl (hb hby d56_2) ?_
    refine XS.istore X0.here hx rfl (hb hby d56_3) rfl (l' := #[oR r0, oI p1, oD 0, oV, oI 0]) rfl ?_
    show own_S p e below s₁ m 5 #[oR r0, oI p1, oD 0, oV, oI 0] [] _
    refine XS.iload X0.here hx rfl (hb hby d56_5) rfl ?_
    refine XS.aloadN X0.here hx rfl (hb hby d56_7) rfl rfl ?_
    show own_S p e below s₁ m 8 _ [(.ref r0), (.int 0)] _
    refine st101 _ ?_
    show own_S p e below T101 m 11 _ [(.int 3), (.int 0)] _
    refine XS.icmpNo X101.here hx rfl (hb hby d56_11) rfl (tlt (by decide : (0 : Int32) < (3 : Int32))).2.1 ?_
    refine XS.dloadN X101.here hx rfl (hb hby d56_14) rfl ?_
    refine XS.aloadN X101.here hx rfl (hb hby d56_15) rfl rfl ?_
    show own_S p e below T101 m 16 _ [(.ref r0), (.double 0)] _
    refine st102 _ ?_
    show own_S p e below T102 m 19 #[oR r0, oI p1, oD 0, oV, oI 0] [(.ref va), (.double 0)] _
    refine XS.iloadN X102.here hx rfl (hb hby d56_19) rfl ?_
    refine XS.aloadN X102.here hx rfl (hb hby d56_20) rfl rfl ?_
    show own_S p e below T102 m 21 _ [(.ref r0), (.int p1), (.ref va), (.double 0)] _
    refine st103 _ ?_
    show own_S p e below T103 m 24 _ [(.int 3), (.int p1), (.ref va), (.double 0)] _
    refine XS.imul X103.here hx rfl (hb hby d56_24) rfl ?_
    show own_S p e below T103 m 25 _ [(.int (p1 * (3 : Int32))), (.ref va), (.double 0)] _
    refine XS.iload X103.here hx rfl (hb hby d56_25) rfl ?_
    show own_S p e below T103 m 27 _ [(.int 0), (.int (p1 * (3 : Int32))), (.ref va), (.double 0)] _
    refine XS.iadd X103.here hx rfl (hb hby d56_27) rfl ?_
    show own_S p e below T103 m 28 _ [(.int ((p1 * (3 : Int32)) + (0 : Int32))), (.ref va), (.double 0)] _
    refine X103.daload hx (j := ((p1 * (3 : Int32)) + (0 : Int32))) (v := (.double y0)) (by rw [e103]; exact Ar104.1) (State.isArrayOf_alike hZ.alike Ar104.2.1) Ar104.2.2 hin105 hat105 (g := (mkF m 28 #[oR r0, oI p1, oD 0, oV, oI 0] [(.int ((p1 * (3 : Int32)) + (0 : Int32))), (.ref va), (.double 0)])) rfl rfl (hb hby d56_28) _ ?_
    show own_S p e below T103 m 29 #[oR r0, oI p1, oD 0, oV, oI 0] [(.double y0), (.double 0)] _
    refine XS.daddS X103.here hx rfl (v := (FP.dadd (0 : UInt64) y0)) (hb hby d56_29) rfl hs0 rfl ?_
    show own_S p e below T103 m 30 _ [(.double (FP.dadd (0 : UInt64) y0))] _
    refine XS.dstoreN X103.here hx rfl (hb hby d56_30) rfl (l' := #[oR r0, oI p1, .val (.double (FP.dadd (0 : UInt64) y0)), oV, oI 0]) rfl ?_
    refine XS.iinc X103.here hx rfl (hb hby d56_31) rfl (l' := #[oR r0, oI p1, .val (.double (FP.dadd (0 : UInt64) y0)), oV, oI 1]) rfl ?_
    refine XS.goto X103.here hx rfl (pc0 := 34) (pc' := 5) rfl (hb hby d56_34) (by decide) (by decide) ?_
    refine XS.iload X103.here hx rfl (hb hby d56_5) rfl ?_
    show own_S p e below T103 m 7 _ [(.int 1)] _
    refine XS.aloadN X103.here hx rfl (hb hby d56_7) rfl rfl ?_
    show own_S p e below T103 m 8 _ [(.ref r0), (.int 1)] _
    refine st106 _ ?_
    show own_S p e below T106 m 11 _ [(.int 3), (.int 1)] _
    refine XS.icmpNo X106.here hx rfl (hb hby d56_11) rfl (tlt (by decide : (1 : Int32) < (3 : Int32))).2.1 ?_
    refine XS.dloadN X106.here hx rfl (hb hby d56_14) rfl ?_
    refine XS.aloadN X106.here hx rfl (hb hby d56_15) rfl rfl ?_
    show own_S p e below T106 m 16 #[oR r0, oI p1, .val (.double (FP.dadd (0 : UInt64) y0)), oV, oI 1] [(.ref r0), (.double (FP.dadd (0 : UInt64) y0))] _
    refine st107 _ ?_
    show own_S p e below T107 m 19 _ [(.ref va), (.double (FP.dadd (0 : UInt64) y0))] _
    refine XS.iloadN X107.here hx rfl (hb hby d56_19) rfl ?_
    refine XS.aloadN X107.here hx rfl (hb hby d56_20) rfl rfl ?_
    show own_S p e below T107 m 21 _ [(.ref r0), (.int p1), (.ref va), (.double (FP.dadd (0 : UInt64) y0))] _
    refine st108 _ ?_
    show own_S p e below T108 m 24 _ [(.int 3), (.int p1), (.ref va), (.double (FP.dadd (0 : UInt64) y0))] _
    refine XS.imul X108.here hx rfl (hb hby d56_24) rfl ?_
    show own_S p e below T108 m 25 _ [(.int (p1 * (3 : Int32))), (.ref va), (.double (FP.dadd (0 : UInt64) y0))] _
    refine XS.iload X108.here hx rfl (hb hby d56_25) rfl ?_
    show own_S p e below T108 m 27 _ [(.int 1), (.int (p1 * (3 : Int32))), (.ref va), (.double (FP.dadd (0 : UInt64) y0))] _
    refine XS.iadd X108.here hx rfl (hb hby d56_27) rfl ?_
    show own_S p e below T108 m 28 #[oR r0, oI p1, .val (.double (FP.dadd (0 : UInt64) y0)), oV, oI 1] [(.int ((p1 * (3 : Int32)) + (1 : Int32))), (.ref va), (.double (FP.dadd (0 : UInt64) y0))] _
    refine X108.daload hx (j := ((p1 * (3 : Int32)) + (1 : Int32))) (v := (.double y1)) (by rw [e108]; exact Ar104.1) (State.isArrayOf_alike hZ.alike Ar104.2.1) Ar104.2.2 hin109 hat109 (g := (mkF m 28 #[oR r0, oI p1, .val (.double (FP.dadd (0 : UInt64) y0)), oV, oI 1] [(.int ((p1 * (3 : Int32)) + (1 : Int32))), (.ref va), (.double (FP.dadd (0 : UInt64) y0))])) rfl rfl (hb hby d56_28) _ ?_
    show own_S p e below T108 m 29 _ [(.double y1), (.double (FP.dadd (0 : UInt64) y0))] _
    refine XS.daddS X108.here hx rfl (v := (FP.dadd (FP.dadd (0 : UInt64) y0) y1)) (hb hby d56_29) rfl hs1 rfl ?_
    show own_S p e below T108 m 30 _ [(.double (FP.dadd (FP.dadd (0 : UInt64) y0) y1))] _
    refine XS.dstoreN X108.here hx rfl (hb hby d56_30) rfl (l' := #[oR r0, oI p1, .val (.double (FP.dadd (FP.dadd (0 : UInt64) y0) y1)), oV, oI 1]) rfl ?_
    refine XS.iinc X108.here hx rfl (hb hby d56_31) rfl (l' := #[oR r0, oI p1, .val (.double (FP.dadd (FP.dadd (0 : UInt64) y0) y1)), oV, oI 2]) rfl ?_
    refine XS.goto X108.here hx rfl (pc0 := 34) (pc' := 5) rfl (hb hby d56_34) (by decide) (by decide) ?_
    refine XS.iload X108.here hx rfl (hb hby d56_5) rfl ?_
    show own_S p e below T108 m 7 _ [(.int 2)] _
    refine XS.aloadN X108.here hx rfl (hb hby d56_7) rfl rfl ?_
    show own_S p e below T108 m 8 _ [(.ref r0), (.int 2)] _
    refine st110 _ ?_
    show own_S p e below T110 m 11 _ [(.int 3), (.int 2)] _
    refine XS.icmpNo X110.here hx rfl (hb hby d56_11) rfl (tlt (by decide : (2 : Int32) < (3 : Int32))).2.1 ?_
    refine XS.dloadN X110.here hx rfl (hb hby d56_14) rfl ?_
    refine XS.aloadN X110.here hx rfl (hb hby d56_15) rfl rfl ?_
    show own_S p e below T110 m 16 #[oR r0, oI p1, .val (.double (FP.dadd (FP.dadd (0 : UInt64) y0) y1)), oV, oI 2] [(.ref r0), (.double (FP.dadd (FP.dadd (0 : UInt64) y0) y1))] _
    refine st111 _ ?_
    show own_S p e below T111 m 19 _ [(.ref va), (.double (FP.dadd (FP.dadd (0 : UInt64) y0) y1))] _
    refine XS.iloadN X111.here hx rfl (hb hby d56_19) rfl ?_
    refine XS.aloadN X111.here hx rfl (hb hby d56_20) rfl rfl ?_
    show own_S p e below T111 m 21 _ [(.ref r0), (.int p1), (.ref va), (.double (FP.dadd (FP.dadd (0 : UInt64) y0) y1))] _
    refine st112 _ ?_
    show own_S p e below T112 m 24 _ [(.int 3), (.int p1), (.ref va), (.double (FP.dadd (FP.dadd (0 : UInt64) y0) y1))] _
    refine XS.imul X112.here hx rfl (hb hby d56_24) rfl ?_
    show own_S p e below T112 m 25 _ [(.int (p1 * (3 : Int32))), (.ref va), (.double (FP.dadd (FP.dadd (0 : UInt64) y0) y1))] _
    refine XS.iload X112.here hx rfl (hb hby d56_25) rfl ?_
    show own_S p e below T112 m 27 _ [(.int 2), (.int (p1 * (3 : Int32))), (.ref va), (.double (FP.dadd (FP.dadd (0 : UInt64) y0) y1))] _
    refine XS.iadd X112.here hx rfl (hb hby d56_27) rfl ?_
    show own_S p e below T112 m 28 #[oR r0, oI p1, .val (.double (FP.dadd (FP.dadd (0 : UInt64) y0) y1)), oV, oI 2] [(.int ((p1 * (3 : Int32)) + (2 : Int32))), (.ref va), (.double (FP.dadd (FP.dadd (0 : UInt64) y0) y1))] _
    refine X112.daload hx (j := ((p1 * (3 : Int32)) + (2 : Int32))) (v := (.double y2)) (by rw [e112]; exact Ar104.1) (State.isArrayOf_alike hZ.alike Ar104.2.1) Ar104.2.2 hin113 hat113 (g := (mkF m 28 #[oR r0, oI p1, .val (.double (FP.dadd (FP.dadd (0 : UInt64) y0) y1)), oV, oI 2] [(.int ((p1 * (3 : Int32)) + (2 : Int32))), (.ref va), (.double (FP.dadd (FP.dadd (0 : UInt64) y0) y1))])) rfl rfl (hb hby d56_28) _ ?_
    show own_S p e below T112 m 29 _ [(.double y2), (.double (FP.dadd (FP.dadd (0 : UInt64) y0) y1))] _
    refine XS.daddS X112.here hx rfl (v := (FP.dadd (FP.dadd (FP.dadd (0 : UInt64) y0) y1) y2)) (hb hby d56_29) rfl hs2 rfl ?_
    show own_S p e below T112 m 30 _ [(.double (FP.dadd (FP.dadd (FP.dadd (0 : UInt64) y0) y1) y2))] _
    refine XS.dstoreN X112.here hx rfl (hb hby d56_30) rfl (l' := #[oR r0, oI p1, .val (.double (FP.dadd (FP.dadd (FP.dadd (0 : UInt64) y0) y1) y2)), oV, oI 2]) rfl ?_
    refine XS.iinc X112.here hx rfl (hb hby d56_31) rfl (l' := #[oR r0, oI p1, .val (.double (FP.dadd (FP.dadd (FP.dadd (0 : UInt64) y0) y1) y2)), oV, oI 3]) rfl ?_
    refine XS.goto X112.here hx rfl (pc0 := 34) (pc' := 5) rfl (hb hby d56_34) (by decide) (by decide) ?_
    refine XS.iload X112.here hx rfl (hb hby d56_5) rfl ?_
    show own_S p e below T112 m 7 _ [(.int 3)] _
    refine XS.aloadN X112.here hx rfl (hb hby d56_7) rfl rfl ?_
    show own_S p e below T112 m 8 _ [(.ref r0), (.int 3)] _
    refine st114 _ ?_
    show own_S p e below T114 m 11 _ [(.int 3), (.int 3)] _
    refine XS.icmpYes X114.here hx rfl (pc0 := 11) (pc' := 37) rfl (hb hby d56_11) rfl (flt (by decide : ¬ ((3 : Int32) < (3 : Int32)))).2.1 (by decide) (by decide) ?_
    refine XS.dloadN X114.here hx rfl (hb hby d56_37) rfl ?_
    show own_S p e below T114 m 38 _ [(.double (FP.dadd (FP.dadd (FP.dadd (0 : UInt64) y0) y1) y2))] _
    exact retOut X114 hx Bd.returns rfl (Or.inr (Or.inr (Or.inl ⟨rfl, rfl, _, rfl⟩))) (hb hby d56_38) hr
  · show Qm56 Z r0 p1 va kva vs y0 y1 y2 h0 n0 _ T114.heap _
    rw [e114]
    exact ⟨rfl, N0, rfl⟩
def own_two (a b : Slot) : Prop := (a = oU ∧ b = oU) ∨ ∃ x : UInt64, a = .val (.double x) ∧ b = oV
theorem own_st8 {a0 a1 a2 a3 a4 a5 a6 a7 o8 o9 : Slot} {d : UInt64} (h : own_two o8 o9) : storeLocals #[a0, a1, a2, a3, a4, a5, a6, a7, o8, o9] 8 (.double d) = some #[a0, a1, a2, a3, a4, a5, a6, a7, oD d, oV] := by
  rcases h with ⟨rfl, rfl⟩ | ⟨x, rfl, rfl⟩ <;> rfl
theorem d45_189 : decode k45 189 = .ok (.aload 6, 2) := by decide +kernel
theorem d45_191 : decode k45 191 = .ok (.invokeinterface 51 1, 5) := by decide +kernel
theorem d45_196 : decode k45 196 = .ok (.astore 7, 2) := by decide +kernel
theorem d45_198 : decode k45 198 = .ok (.aload 7, 2) := by decide +kernel
theorem d45_200 : decode k45 200 = .ok (.invokeinterface 55 1, 5) := by decide +kernel
theorem d45_205 : decode k45 205 = .ok (.ifCond .eq 32, 3) := by decide +kernel
theorem d45_208 : decode k45 208 = .ok (.aload 7, 2) := by decide +kernel
theorem d45_210 : decode k45 210 = .ok (.invokeinterface 60 1, 5) := by decide +kernel
theorem d45_215 : decode k45 215 = .ok (.checkcast 64, 3) := by decide +kernel
theorem d45_218 : decode k45 218 = .ok (.invokevirtual 66, 3) := by decide +kernel
theorem d45_221 : decode k45 221 = .ok (.dstore 8, 2) := by decide +kernel
theorem d45_223 : decode k45 223 = .ok (.aload_n 0, 1) := by decide +kernel
theorem d45_224 : decode k45 224 = .ok (.getfield 47, 3) := by decide +kernel
theorem d45_227 : decode k45 227 = .ok (.iload_n 2, 1) := by decide +kernel
theorem d45_228 : decode k45 228 = .ok (.iinc 2 1, 3) := by decide +kernel
theorem d45_231 : decode k45 231 = .ok (.dload 8, 2) := by decide +kernel
theorem d45_233 : decode k45 233 = .ok (.dastore, 1) := by decide +kernel
theorem d45_234 : decode k45 234 = .ok (.goto (-36), 3) := by decide +kernel
theorem d45_237 : decode k45 237 = .ok (.goto (-70), 3) := by decide +kernel
set_option maxRecDepth 65536 in
set_option maxHeartbeats 40000000 in
theorem own_VS (l : Launch) (Z : State) (a0 : Array Value) (hw : own_HW Z a0) (r0 : Addr) (r1 : Addr) (it3 : Addr) (o4 : Addr) (it5 : Addr) (l6 : Addr) (va : Addr) (A : Addr) (x0 : Addr) (x1 : Addr) (x2 : Addr) (kva : ClassId) (kA : ClassId) (pi : Int32) (qi : Int32) (bi : Nat) (vs : List Value) (wa : Value) (e0v : UInt64) (e1v : UInt64) (e2v : UInt64) (s7 : Slot) (s8 : Slot) (s9 : Slot) (c0 : Nat) (s0 : Nat) (h0 : Heap) (n0 : Nat) (Z0 : n0 ≤ h0.size) (E_r0 : Exa Z h0 r0 kIV) (F_values_r0 : Fld Z h0 r0 kIV "values" "[D" (.ref va)) (V_va : Arv Z h0 va kva .double (6 : Int32) vs (.double 0)) (E_va : Exa Z h0 va "[D") (g_va : n0 ≤ va) (E_l6 : Exa Z h0 l6 kLN) (F_elements_l6 : Fld Z h0 l6 kLN "elements" kOA (.ref A)) (F_allowNulls_l6 : Fld Z h0 l6 kLN "allowNulls" "Z" wa) (V_A : Arv Z h0 A kA (.object kOB) (3 : Int32) [(.ref x0), (.ref x1), (.ref x2)] .null) (E_A : Exa Z h0 A kOA) (E_x0 : Exa Z h0 x0 kDB) (F_value_x0 : Fld Z h0 x0 kDB "value" "D" (.double e0v)) (E_x1 : Exa Z h0 x1 kDB) (F_value_x1 : Fld Z h0 x1 kDB "value" "D" (.double e1v)) (E_x2 : Exa Z h0 x2 kDB) (F_value_x2 : Fld Z h0 x2 kDB "value" "D" (.double e2v)) (hi0 : ¬ pi < (0 : Int32) ∧ pi < (6 : Int32)) (hp0 : pi.toNatClampNeg = bi) (hl0 : bi < vs.length) (hi1 : ¬ (pi + (1 : Int32)) < (0 : Int32) ∧ (pi + (1 : Int32)) < (6 : Int32)) (hp1 : (pi + (1 : Int32)).toNatClampNeg = (bi + 1)) (hl1 : (bi + 1) < (vs.set bi (.double e0v)).length) (hi2 : ¬ ((pi + (1 : Int32)) + (1 : Int32)) < (0 : Int32) ∧ ((pi + (1 : Int32)) + (1 : Int32)) < (6 : Int32)) (hp2 : ((pi + (1 : Int32)) + (1 : Int32)).toNatClampNeg = (bi + 2)) (hl2 : (bi + 2) < ((vs.set bi (.double e0v)).set (bi + 1) (.double e1v)).length) (hqi : qi = (((pi + (1 : Int32)) + (1 : Int32)) + (1 : Int32))) (hs7 : One s7) (h89 : own_two s8 s9) (hc0 : c0 + 1 ≤ 8) (hsl0 : s0 + 4 ≤ 50)
    {p : Program} {e : Env} {s : State} {m : MethodId} {args : Array Value} {below : List Frame} {meth : Method} {c : Code} {s₁ : State} {Lc : List Loc} (hx : p.tables.exec = Jvm.exec) (hby : c.code = prog_26_method_1_code) (hml : c.maxLocals = 10) (hZ : Z.Warmed39 s.vm) (hown : s.vm.findClass kIV = some m.cls) (hnm : meth.name = "<init>") (X0 : Stand p l e ({ frames := 4, cells := 8, slots := 50, locals := 80 } : Room) s m args below meth c s₁ Lc c0 s0) (e0 : s₁.heap = h0) (N0 : Fr n0 Lc) :
    ∃ it : Addr, ∃ T : State, ∃ L : List Loc, Stand p l e ({ frames := 4, cells := 8, slots := 50, locals := 80 } : Room) s m args below meth c T L (c0 + 1) (s0 + 4) ∧ Fr n0 L ∧ (Keep h0 T.heap [va]) ∧ (Arv Z T.heap va kva .double (6 : Int32) (((vs.set bi (.double e0v)).set (bi + 1) (.double e1v)).set (bi + 2) (.double e2v)) (.double 0)) ∧ ∀ t, Steps p.tables e below (T.setTop (mkF m 167 #[oR r0, oR r1, oI qi, oR it3, oR o4, oR it5, oR l6, oR it, oD e2v, oV] [])) t → Steps p.tables e below (s₁.setTop (mkF m 189 #[oR r0, oR r1, oI pi, oR it3, oR o4, oR it5, oR l6, s7, s8, s9] [])) t := by
  obtain ⟨_, T101, L101, X101, hQ101, st101⟩ := own_cI X0 hx hZ hw hown (b := l6) (W := 0) (rm_it3 l Z a0 hw [] l6 A x0 x1 x2 kA wa h0 n0 Z0 E_l6 F_elements_l6 F_allowNulls_l6 V_A) (by decide) (by decide) (by decide) 369 rfl 152 rfl 153 rfl 409 rfl 373 rfl 374 rfl 410 rfl 353 rfl 376 rfl 282 rfl e0 E_l6 (g := (mkF m 191 #[oR r0, oR r1, oI pi, oR it3, oR o4, oR it5, oR l6, s7, s8, s9] [(.ref l6)])) rfl (by rw [hml]; rfl) (argsL := []) (rest := []) (lenOf pd21 rfl) rfl (Nat.le_of_eq rfl) (hb hby d45_191) rfl (cN := (c0 + 1)) rfl (by show (c0 + 1) ≤ 8; omega) (sN := (s0 + 4)) rfl (by show (s0 + 4) ≤ 50; omega)
  obtain ⟨it_101, rfl, Nq101, P101_0, P101_1, P101_2, P101_3, P101_4, P101_5, P101_6⟩ := hQ101
  have N101 := Fr.app N0 Nq101
  have g_it_101 : n0 ≤ it_101 := Nat.le_trans Z0 P101_1
  have sz_it_101 : h0.size ≤ it_101 := Nat.le_trans (Keep.refl h0 [va]).1 P101_1
  have ZZ102 : n0 ≤ T101.heap.size := Nat.le_trans Z0 P101_0.1
  have KK103 : Keep h0 T101.heap [va] := Keep.trans (Keep.refl h0 [va]) P101_0 all0
  obtain ⟨_, T104, L104, X104, hQ104, st104⟩ := own_cI X101 hx hZ hw hown (b := it_101) (W := 0) (rm_lh1 l Z a0 hw [] it_101 (0 : Int32) (3 : Int32) (.ref l6) (.int 0) T101.heap n0 ZZ102 P101_3 P101_4 P101_5 P101_6 (by decide)) (by decide) (by decide) (by decide) 370 rfl 175 rfl 176 rfl 397 rfl 398 rfl 399 rfl 400 rfl 401 rfl 402 rfl 379 rfl rfl P101_2 (g := (mkF m 200 #[oR r0, oR r1, oI pi, oR it3, oR o4, oR it5, oR l6, oR it_101, s8, s9] [(.ref it_101)])) rfl (by rw [hml]; rfl) (argsL := []) (rest := []) (lenOf pd15 rfl) rfl (Nat.le_of_eq rfl) (hb hby d45_200) rfl (cN := (c0 + 1)) rfl (by show (c0 + 1) ≤ 8; omega) (sN := (s0 + 4)) rfl (by show (s0 + 4) ≤ 50; omega)
  obtain ⟨rfl, Nq104, P104_0⟩ := hQ104
  have N104 := Fr.app N101 Nq104
  have Fc105 := (F_elements_l6.keep P101_0 nin0)
  have Fc106 := (F_allowNulls_l6.keep P101_0 nin0)
  obtain ⟨_, T107, L107, X107, hQ107, st107⟩ := own_cIW X104 hx hZ hw hown (b := it_101) (W := 0) (rm_ln3_0 l Z a0 hw [] it_101 l6 A x0 x1 x2 kA wa (.int 0) T101.heap n0 ZZ102 P101_2 g_it_101 P101_3 P101_4 P101_5 P101_6 (E_l6.keep P101_0) Fc105 Fc106 (V_A.keep P101_0 nin0)) (by decide) (by decide) (by decide) 371 rfl 187 rfl 188 rfl 403 rfl 404 rfl 405 rfl 406 rfl 401 rfl 407 rfl 379 rfl P104_0 P101_2 (g := (mkF m 210 #[oR r0, oR r1, oI pi, oR it3, oR o4, oR it5, oR l6, oR it_101, s8, s9] [(.ref it_101)])) rfl (by rw [hml]; rfl) (argsL := []) (rest := []) (lenOf pd22 rfl) rfl (Nat.le_of_eq rfl) (hb hby d45_210) rfl (cN := (c0 + 1)) rfl (by show (c0 + 1) ≤ 8; omega) (sN := (s0 + 4)) rfl (by show (s0 + 4) ≤ 50; omega)
  obtain ⟨rfl, Nq107, P107_0, P107_1, P107_2, P107_3, P107_4⟩ := hQ107
  have N107 := Fr.app N104 Nq107
  have ZZ108 : n0 ≤ T107.heap.size := Nat.le_trans ZZ102 P107_0.1
  have KK109 : Keep h0 T107.heap [va] := Keep.trans KK103 P107_0 (allS (Or.inr sz_it_101) all0)
  have Fc110 := (E_x0.keep KK109)
  obtain ⟨T111, X111, e111, st111⟩ := castY X107 hx hZ hown (own_w hw 417 rfl) rfl (Ins.self Fc110) (g := (mkF m 215 #[oR r0, oR r1, oI pi, oR it3, oR o4, oR it5, oR l6, oR it_101, s8, s9] [(.ref x0)])) rfl rfl (hb hby d45_215)
  have Fc112 := ((E_va.keep P101_0).keep P107_0)
  have nq113 : x0 ≠ va := (ne_exa Fc110 Fc112 (by decide))
  have Fc114 := (F_value_x0.keep KK109 (ninS nq113 nin0))
  obtain ⟨_, T115, L115, X115, hQ115, st115⟩ := own_cV X111 hx hZ hw hown (b := x0) (W := 0) (rmm29 l Z a0 hw [] x0 e0v T107.heap n0 ZZ108 Fc114) (by decide) (by decide) (by decide) 418 rfl 202 rfl 204 rfl 203 rfl 205 rfl 32 rfl e111 Fc110 (g := (mkF m 218 #[oR r0, oR r1, oI pi, oR it3, oR o4, oR it5, oR l6, oR it_101, s8, s9] [(.ref x0)])) rfl (by rw [hml]; rfl) (argsL := []) (rest := []) (lenOf pd23 rfl) rfl (Nat.le_of_eq rfl) (hb hby d45_218) rfl (cN := (c0 + 1)) rfl (by show (c0 + 1) ≤ 8; omega) (sN := (s0 + 4)) rfl (by show (s0 + 4) ≤ 50; omega)
  obtain ⟨rfl, Nq115, P115_0⟩ := hQ115
  have N115 := Fr.app N107 Nq115
  have Fc116 := (E_r0.keep KK109)
  have nq117 : r0 ≠ va := (ne_exa Fc116 Fc112 (by decide))
  have Fc118 := (F_values_r0.keep KK109 (ninS nq117 nin0))
  obtain ⟨T119, X119, e119, st119⟩ := getF X115 hx hZ hown (host := "") (Or.inl (own_w hw 367 rfl)) Via.refl P115_0 Fc118 (g := (mkF m 224 #[oR r0, oR r1, oI pi, oR it3, oR o4, oR it5, oR l6, oR it_101, oD e0v, oV] [(.ref r0)])) rfl rfl (hb hby d45_224)
  have nq120 : va ≠ it_101 := (ne_exa Fc112 (P101_2.keep P107_0) (by decide))
  have Fc121 := ((V_va.keep P101_0 nin0).keep P107_0 (ninS nq120 nin0))
  obtain ⟨cl122, Ar122, qk122, Sz122, Nz122, Hh122, Gg122⟩ := id Fc121
  have hin123 : ¬ (pi < 0 ∨ cl122.slots.size ≤ (pi).toNatClampNeg) := inb_of Sz122 hi0
  obtain ⟨T124, h124, X124, e124, W124, st124⟩ := stD X119 hx hZ e119 Ar122 (j := pi) hin123 (g := (mkF m 233 #[oR r0, oR r1, .val (.int (pi + (1 : Int32))), oR it3, oR o4, oR it5, oR l6, oR it_101, oD e0v, oV] [(.double e0v), (.int pi), (.ref va)])) rfl rfl (hb hby d45_233)
  have Va124 := Arv.set Ar122 qk122 Sz122 Nz122 Hh122 Gg122 rfl W124 bi hp0 hl0
  have N124 := Fr.snoc X124 N115 g_va
  have ZZ125 : n0 ≤ h124.size := Nat.le_trans ZZ108 (Nat.le_of_eq W124.size.symm)
  have KK126 : Keep h0 h124 [va] := KK109.wr W124 (Or.inl (List.mem_of_getElem? (i := 0) rfl))
  have Fc127 := (P107_1.other W124 (Or.inl (Ne.symm nq120)))
  have Fc128 := (P107_2.other W124 (Or.inl (Ne.symm nq120)))
  have Fc129 := (P107_3.other W124 (Or.inl (Ne.symm nq120)))
  have Fc130 := (P107_4.other W124 (Or.inl (Ne.symm nq120)))
  have Fc132 := ((P101_2.keep P107_0).wr W124)
  obtain ⟨_, T131, L131, X131, hQ131, st131⟩ := own_cI X124 hx hZ hw hown (b := it_101) (W := 0) (rm_lh1 l Z a0 hw [] it_101 (1 : Int32) (3 : Int32) (.ref l6) (.int 0) h124 n0 ZZ125 Fc127 Fc128 Fc129 Fc130 (by decide)) (by decide) (by decide) (by decide) 370 rfl 175 rfl 176 rfl 397 rfl 398 rfl 399 rfl 400 rfl 401 rfl 402 rfl 379 rfl e124 Fc132 (g := (mkF m 200 #[oR r0, oR r1, .val (.int (pi + (1 : Int32))), oR it3, oR o4, oR it5, oR l6, oR it_101, oD e0v, oV] [(.ref it_101)])) rfl (by rw [hml]; rfl) (argsL := []) (rest := []) (lenOf pd15 rfl) rfl (Nat.le_of_eq rfl) (hb hby d45_200) rfl (cN := (c0 + 1)) rfl (by show (c0 + 1) ≤ 8; omega) (sN := (s0 + 4)) rfl (by show (s0 + 4) ≤ 50; omega)
  obtain ⟨rfl, Nq131, P131_0⟩ := hQ131
  have N131 := Fr.app N124 Nq131
  have Fc133 := (E_l6.keep KK126)
  have nq134 : l6 ≠ it_101 := (ne_exa Fc133 Fc132 (by decide))
  have nq135 : l6 ≠ va := (ne_exa Fc133 (Fc112.wr W124) (by decide))
  have Fc136 := ((Fc105.keep P107_0 (ninS nq134 nin0)).other W124 (Or.inl nq135))
  have Fc137 := ((Fc106.keep P107_0 (ninS nq134 nin0)).other W124 (Or.inl nq135))
  have Fc138 := (E_A.keep KK126)
  have nq139 : A ≠ va := (ne_exa Fc138 (Fc112.wr W124) (by decide))
  have Fc140 := (V_A.keep KK126 (ninS nq139 nin0))
  obtain ⟨_, T141, L141, X141, hQ141, st141⟩ := own_cIW X131 hx hZ hw hown (b := it_101) (W := 0) (rm_ln3_1 l Z a0 hw [] it_101 l6 A x0 x1 x2 kA wa (.int 0) h124 n0 ZZ125 Fc132 g_it_101 Fc127 Fc128 Fc129 Fc130 Fc133 Fc136 Fc137 Fc140) (by decide) (by decide) (by decide) 371 rfl 187 rfl 188 rfl 403 rfl 404 rfl 405 rfl 406 rfl 401 rfl 407 rfl 379 rfl P131_0 Fc132 (g := (mkF m 210 #[oR r0, oR r1, .val (.int (pi + (1 : Int32))), oR it3, oR o4, oR it5, oR l6, oR it_101, oD e0v, oV] [(.ref it_101)])) rfl (by rw [hml]; rfl) (argsL := []) (rest := []) (lenOf pd22 rfl) rfl (Nat.le_of_eq rfl) (hb hby d45_210) rfl (cN := (c0 + 1)) rfl (by show (c0 + 1) ≤ 8; omega) (sN := (s0 + 4)) rfl (by show (s0 + 4) ≤ 50; omega)
  obtain ⟨rfl, Nq141, P141_0, P141_1, P141_2, P141_3, P141_4⟩ := hQ141
  have N141 := Fr.app N131 Nq141
  have ZZ142 : n0 ≤ T141.heap.size := Nat.le_trans ZZ125 P141_0.1
  have KK143 : Keep h0 T141.heap [va] := Keep.trans KK126 P141_0 (allS (Or.inr sz_it_101) all0)
  have Fc144 := (E_x1.keep KK143)
  obtain ⟨T145, X145, e145, st145⟩ := castY X141 hx hZ hown (own_w hw 417 rfl) rfl (Ins.self Fc144) (g := (mkF m 215 #[oR r0, oR r1, .val (.int (pi + (1 : Int32))), oR it3, oR o4, oR it5, oR l6, oR it_101, oD e0v, oV] [(.ref x1)])) rfl rfl (hb hby d45_215)
  have Fc146 := ((Fc112.wr W124).keep P141_0)
  have nq147 : x1 ≠ va := (ne_exa Fc144 Fc146 (by decide))
  have Fc148 := (F_value_x1.keep KK143 (ninS nq147 nin0))
  obtain ⟨_, T149, L149, X149, hQ149, st149⟩ := own_cV X145 hx hZ hw hown (b := x1) (W := 0) (rmm29 l Z a0 hw [] x1 e1v T141.heap n0 ZZ142 Fc148) (by decide) (by decide) (by decide) 418 rfl 202 rfl 204 rfl 203 rfl 205 rfl 32 rfl e145 Fc144 (g := (mkF m 218 #[oR r0, oR r1, .val (.int (pi + (1 : Int32))), oR it3, oR o4, oR it5, oR l6, oR it_101, oD e0v, oV] [(.ref x1)])) rfl (by rw [hml]; rfl) (argsL := []) (rest := []) (lenOf pd23 rfl) rfl (Nat.le_of_eq rfl) (hb hby d45_218) rfl (cN := (c0 + 1)) rfl (by show (c0 + 1) ≤ 8; omega) (sN := (s0 + 4)) rfl (by show (s0 + 4) ≤ 50; omega)
  obtain ⟨rfl, Nq149, P149_0⟩ := hQ149
  have N149 := Fr.app N141 Nq149
  have Fc150 := (F_values_r0.keep KK143 (ninS nq117 nin0))
  obtain ⟨T151, X151, e151, st151⟩ := getF X149 hx hZ hown (host := "") (Or.inl (own_w hw 367 rfl)) Via.refl P149_0 Fc150 (g := (mkF m 224 #[oR r0, oR r1, .val (.int (pi + (1 : Int32))), oR it3, oR o4, oR it5, oR l6, oR it_101, oD e1v, oV] [(.ref r0)])) rfl rfl (hb hby d45_224)
  have Fc152 := (Va124.keep P141_0 (ninS nq120 nin0))
  obtain ⟨cl153, Ar153, qk153, Sz153, Nz153, Hh153, Gg153⟩ := id Fc152
  have hin154 : ¬ ((pi + (1 : Int32)) < 0 ∨ cl153.slots.size ≤ ((pi + (1 : Int32))).toNatClampNeg) := inb_of Sz153 hi1
  obtain ⟨T155, h155, X155, e155, W155, st155⟩ := stD X151 hx hZ e151 Ar153 (j := (pi + (1 : Int32))) hin154 (g := (mkF m 233 #[oR r0, oR r1, .val (.int ((pi + (1 : Int32)) + (1 : Int32))), oR it3, oR o4, oR it5, oR l6, oR it_101, oD e1v, oV] [(.double e1v), (.int (pi + (1 : Int32))), (.ref va)])) rfl rfl (hb hby d45_233)
  have Va155 := Arv.set Ar153 qk153 Sz153 Nz153 Hh153 Gg153 rfl W155 (bi + 1) hp1 hl1
  have N155 := Fr.snoc X155 N149 g_va
  have ZZ156 : n0 ≤ h155.size := Nat.le_trans ZZ142 (Nat.le_of_eq W155.size.symm)
  have KK157 : Keep h0 h155 [va] := KK143.wr W155 (Or.inl (List.mem_of_getElem? (i := 0) rfl))
  have Fc158 := (P141_1.other W155 (Or.inl (Ne.symm nq120)))
  have Fc159 := (P141_2.other W155 (Or.inl (Ne.symm nq120)))
  have Fc160 := (P141_3.other W155 (Or.inl (Ne.symm nq120)))
  have Fc161 := (P141_4.other W155 (Or.inl (Ne.symm nq120)))
  have Fc163 := ((Fc132.keep P141_0).wr W155)
  obtain ⟨_, T162, L162, X162, hQ162, st162⟩ := own_cI X155 hx hZ hw hown (b := it_101) (W := 0) (rm_lh1 l Z a0 hw [] it_101 (2 : Int32) (3 : Int32) (.ref l6) (.int 0) h155 n0 ZZ156 Fc158 Fc159 Fc160 Fc161 (by decide)) (by decide) (by decide) (by decide) 370 rfl 175 rfl 176 rfl 397 rfl 398 rfl 399 rfl 400 rfl 401 rfl 402 rfl 379 rfl e155 Fc163 (g := (mkF m 200 #[oR r0, oR r1, .val (.int ((pi + (1 : Int32)) + (1 : Int32))), oR it3, oR o4, oR it5, oR l6, oR it_101, oD e1v, oV] [(.ref it_101)])) rfl (by rw [hml]; rfl) (argsL := []) (rest := []) (lenOf pd15 rfl) rfl (Nat.le_of_eq rfl) (hb hby d45_200) rfl (cN := (c0 + 1)) rfl (by show (c0 + 1) ≤ 8; omega) (sN := (s0 + 4)) rfl (by show (s0 + 4) ≤ 50; omega)
  obtain ⟨rfl, Nq162, P162_0⟩ := hQ162
  have N162 := Fr.app N155 Nq162
  have Fc164 := (E_l6.keep KK157)
  have Fc165 := ((Fc136.keep P141_0 (ninS nq134 nin0)).other W155 (Or.inl nq135))
  have Fc166 := ((Fc137.keep P141_0 (ninS nq134 nin0)).other W155 (Or.inl nq135))
  have Fc167 := (V_A.keep KK157 (ninS nq139 nin0))
  obtain ⟨_, T168, L168, X168, hQ168, st168⟩ := own_cIW X162 hx hZ hw hown (b := it_101) (W := 0) (rm_ln3_2 l Z a0 hw [] it_101 l6 A x0 x1 x2 kA wa (.int 0) h155 n0 ZZ156 Fc163 g_it_101 Fc158 Fc159 Fc160 Fc161 Fc164 Fc165 Fc166 Fc167) (by decide) (by decide) (by decide) 371 rfl 187 rfl 188 rfl 403 rfl 404 rfl 405 rfl 406 rfl 401 rfl 407 rfl 379 rfl P162_0 Fc163 (g := (mkF m 210 #[oR r0, oR r1, .val (.int ((pi + (1 : Int32)) + (1 : Int32))), oR it3, oR o4, oR it5, oR l6, oR it_101, oD e1v, oV] [(.ref it_101)])) rfl (by rw [hml]; rfl) (argsL := []) (rest := []) (lenOf pd22 rfl) rfl (Nat.le_of_eq rfl) (hb hby d45_210) rfl (cN := (c0 + 1)) rfl (by show (c0 + 1) ≤ 8; omega) (sN := (s0 + 4)) rfl (by show (s0 + 4) ≤ 50; omega)
  obtain ⟨rfl, Nq168, P168_0, P168_1, P168_2, P168_3, P168_4⟩ := hQ168
  have N168 := Fr.app N162 Nq168
  have ZZ169 : n0 ≤ T168.heap.size := Nat.le_trans ZZ156 P168_0.1
  have KK170 : Keep h0 T168.heap [va] := Keep.trans KK157 P168_0 (allS (Or.inr sz_it_101) all0)
  have Fc171 := (E_x2.keep KK170)
  obtain ⟨T172, X172, e172, st172⟩ := castY X168 hx hZ hown (own_w hw 417 rfl) rfl (Ins.self Fc171) (g := (mkF m 215 #[oR r0, oR r1, .val (.int ((pi + (1 : Int32)) + (1 : Int32))), oR it3, oR o4, oR it5, oR l6, oR it_101, oD e1v, oV] [(.ref x2)])) rfl rfl (hb hby d45_215)
  have Fc173 := ((Fc146.wr W155).keep P168_0)
  have nq174 : x2 ≠ va := (ne_exa Fc171 Fc173 (by decide))
  have Fc175 := (F_value_x2.keep KK170 (ninS nq174 nin0))
  obtain ⟨_, T176, L176, X176, hQ176, st176⟩ := own_cV X172 hx hZ hw hown (b := x2) (W := 0) (rmm29 l Z a0 hw [] x2 e2v T168.heap n0 ZZ169 Fc175) (by decide) (by decide) (by decide) 418 rfl 202 rfl 204 rfl 203 rfl 205 rfl 32 rfl e172 Fc171 (g := (mkF m 218 #[oR r0, oR r1, .val (.int ((pi + (1 : Int32)) + (1 : Int32))), oR it3, oR o4, oR it5, oR l6, oR it_101, oD e1v, oV] [(.ref x2)])) rfl (by rw [hml]; rfl) (argsL := []) (rest := []) (lenOf pd23 rfl) rfl (Nat.le_of_eq rfl) (hb hby d45_218) rfl (cN := (c0 + 1)) rfl (by show (c0 + 1) ≤ 8; omega) (sN := (s0 + 4)) rfl (by show (s0 + 4) ≤ 50; omega)
  obtain ⟨rfl, Nq176, P176_0⟩ := hQ176
  have N176 := Fr.app N168 Nq176
  have Fc177 := (F_values_r0.keep KK170 (ninS nq117 nin0))
  obtain ⟨T178, X178, e178, st178⟩ := getF X176 hx hZ hown (host := "") (Or.inl (own_w hw 367 rfl)) Via.refl P176_0 Fc177 (g := (mkF m 224 #[oR r0, oR r1, .val (.int ((pi + (1 : Int32)) + (1 : Int32))), oR it3, oR o4, oR it5, oR l6, oR it_101, oD e2v, oV] [(.ref r0)])) rfl rfl (hb hby d45_224)
  have Fc179 := (Va155.keep P168_0 (ninS nq120 nin0))
  obtain ⟨cl180, Ar180, qk180, Sz180, Nz180, Hh180, Gg180⟩ := id Fc179
  have hin181 : ¬ (((pi + (1 : Int32)) + (1 : Int32)) < 0 ∨ cl180.slots.size ≤ (((pi + (1 : Int32)) + (1 : Int32))).toNatClampNeg) := inb_of Sz180 hi2
  obtain ⟨T182, h182, X182, e182, W182, st182⟩ := stD X178 hx hZ e178 Ar180 (j := ((pi + (1 : Int32)) + (1 : Int32))) hin181 (g := (mkF m 233 #[oR r0, oR r1, .val (.int (((pi + (1 : Int32)) + (1 : Int32)) + (1 : Int32))), oR it3, oR o4, oR it5, oR l6, oR it_101, oD e2v, oV] [(.double e2v), (.int ((pi + (1 : Int32)) + (1 : Int32))), (.ref va)])) rfl rfl (hb hby d45_233)
  have Va182 := Arv.set Ar180 qk180 Sz180 Nz180 Hh180 Gg180 rfl W182 (bi + 2) hp2 hl2
  have N182 := Fr.snoc X182 N176 g_va
  have ZZ183 : n0 ≤ h182.size := Nat.le_trans ZZ169 (Nat.le_of_eq W182.size.symm)
  have KK184 : Keep h0 h182 [va] := KK170.wr W182 (Or.inl (List.mem_of_getElem? (i := 0) rfl))
  have Fc185 := (P168_1.other W182 (Or.inl (Ne.symm nq120)))
  have Fc186 := (P168_2.other W182 (Or.inl (Ne.symm nq120)))
  have Fc187 := (P168_3.other W182 (Or.inl (Ne.symm nq120)))
  have Fc188 := (P168_4.other W182 (Or.inl (Ne.symm nq120)))
  have Fc190 := ((Fc163.keep P168_0).wr W182)
  obtain ⟨_, T189, L189, X189, hQ189, st189⟩ := own_cI X182 hx hZ hw hown (b := it_101) (W := 0) (rm_lh0 l Z a0 hw [] it_101 (3 : Int32) (3 : Int32) (.ref l6) (.int 0) h182 n0 ZZ183 Fc185 Fc186 Fc187 Fc188 rfl) (by decide) (by decide) (by decide) 370 rfl 175 rfl 176 rfl 397 rfl 398 rfl 399 rfl 400 rfl 401 rfl 402 rfl 379 rfl e182 Fc190 (g := (mkF m 200 #[oR r0, oR r1, .val (.int (((pi + (1 : Int32)) + (1 : Int32)) + (1 : Int32))), oR it3, oR o4, oR it5, oR l6, oR it_101, oD e2v, oV] [(.ref it_101)])) rfl (by rw [hml]; rfl) (argsL := []) (rest := []) (lenOf pd15 rfl) rfl (Nat.le_of_eq rfl) (hb hby d45_200) rfl (cN := (c0 + 1)) rfl (by show (c0 + 1) ≤ 8; omega) (sN := (s0 + 4)) rfl (by show (s0 + 4) ≤ 50; omega)
  obtain ⟨rfl, Nq189, P189_0⟩ := hQ189
  have N189 := Fr.app N182 Nq189
  refine ⟨it_101, _, _, X189, N189, (by rw [P189_0]; exact KK184), (by rw [P189_0]; exact Va182), fun t kt => ?_⟩
  show own_S p e below s₁ m 189 #[oR r0, oR r1, oI pi, oR it3, oR o4, oR it5, oR l6, s7, s8, s9] [] _
  refine XS.aload X0.here hx rfl (hb hby d45_189) rfl rfl ?_
  show own_S p e below s₁ m 191 _ [(.ref l6)] _
  refine st101.trans ?_
  show own_S p e below T101 m 196 _ [(.ref it_101)] _
  refine XS.astore X101.here hx rfl (hb hby d45_196) rfl rfl (l' := #[oR r0, oR r1, oI pi, oR it3, oR o4, oR it5, oR l6, oR it_101, s8, s9]) (XS.store1 rfl hs7 rfl) ?_
  refine XS.aload X101.here hx rfl (hb hby d45_198) rfl rfl ?_
  show own_S p e below T101 m 200 _ [(.ref it_101)] _
  refine st104.trans ?_
  show own_S p e below T104 m 205 _ [(.int 1)] _
  refine XS.ifNo X104.here hx rfl (hb hby d45_205) rfl ((if0 _ _).trans (feq (by decide : ¬ ((1 : Int32) = (0 : Int32)))).1) ?_
  refine XS.aload X104.here hx rfl (hb hby d45_208) rfl rfl ?_
  show own_S p e below T104 m 210 _ [(.ref it_101)] _
  refine st107.trans ?_
  show own_S p e below T107 m 215 _ [(.ref x0)] _
  refine st111 _ ?_
  show own_S p e below T111 m 218 _ [(.ref x0)] _
  refine st115.trans ?_
  show own_S p e below T115 m 221 #[oR r0, oR r1, oI pi, oR it3, oR o4, oR it5, oR l6, oR it_101, s8, s9] [(.double e0v)] _
  refine XS.dstore X115.here hx rfl (hb hby d45_221) rfl (l' := #[oR r0, oR r1, oI pi, oR it3, oR o4, oR it5, oR l6, oR it_101, oD e0v, oV]) (own_st8 h89) ?_
  refine XS.aloadN X115.here hx rfl (hb hby d45_223) rfl rfl ?_
  show own_S p e below T115 m 224 _ [(.ref r0)] _
  refine st119 _ ?_
  show own_S p e below T119 m 227 _ [(.ref va)] _
  refine XS.iloadN X119.here hx rfl (hb hby d45_227) rfl ?_
  refine XS.iinc X119.here hx rfl (hb hby d45_228) rfl (l' := #[oR r0, oR r1, .val (.int (pi + (1 : Int32))), oR it3, oR o4, oR it5, oR l6, oR it_101, oD e0v, oV]) rfl ?_
  refine XS.dload X119.here hx rfl (hb hby d45_231) rfl ?_
  show own_S p e below T119 m 233 _ [(.double e0v), (.int pi), (.ref va)] _
  refine st124 _ ?_
  show own_S p e below T124 m 234 _ [] _
  refine XS.goto X124.here hx rfl (pc0 := 234) (pc' := 198) rfl (hb hby d45_234) (by decide) (by decide) ?_
  refine XS.aload X124.here hx rfl (hb hby d45_198) rfl rfl ?_
  show own_S p e below T124 m 200 _ [(.ref it_101)] _
  refine st131.trans ?_
  show own_S p e below T131 m 205 _ [(.int 1)] _
  refine XS.ifNo X131.here hx rfl (hb hby d45_205) rfl ((if0 _ _).trans (feq (by decide : ¬ ((1 : Int32) = (0 : Int32)))).1) ?_
  refine XS.aload X131.here hx rfl (hb hby d45_208) rfl rfl ?_
  show own_S p e below T131 m 210 #[oR r0, oR r1, .val (.int (pi + (1 : Int32))), oR it3, oR o4, oR it5, oR l6, oR it_101, oD e0v, oV] [(.ref it_101)] _
  refine st141.trans ?_
  show own_S p e below T141 m 215 _ [(.ref x1)] _
  refine st145 _ ?_
  show own_S p e below T145 m 218 _ [(.ref x1)] _
  refine st149.trans ?_
  show own_S p e below T149 m 221 _ [(.double e1v)] _
  refine XS.dstore X149.here hx rfl (hb hby d45_221) rfl (l' := #[oR r0, oR r1, .val (.int (pi + (1 : Int32))), oR it3, oR o4, oR it5, oR l6, oR it_101, oD e1v, oV]) rfl ?_
  refine XS.aloadN X149.here hx rfl (hb hby d45_223) rfl rfl ?_
  show own_S p e below T149 m 224 _ [(.ref r0)] _
  refine st151 _ ?_
  show own_S p e below T151 m 227 _ [(.ref va)] _
  refine XS.iloadN X151.here hx rfl (hb hby d45_227) rfl ?_
  refine XS.iinc X151.here hx rfl (hb hby d45_228) rfl (l' := #[oR r0, oR r1, .val (.int ((pi + (1 : Int32)) + (1 : Int32))), oR it3, oR o4, oR it5, oR l6, oR it_101, oD e1v, oV]) rfl ?_
  refine XS.dload X151.here hx rfl (hb hby d45_231) rfl ?_
  show own_S p e below T151 m 233 _ [(.double e1v), (.int (pi + (1 : Int32))), (.ref va)] _
  refine st155 _ ?_
  show own_S p e below T155 m 234 _ [] _
  refine XS.goto X155.here hx rfl (pc0 := 234) (pc' := 198) rfl (hb hby d45_234) (by decide) (by decide) ?_
  refine XS.aload X155.here hx rfl (hb hby d45_198) rfl rfl ?_
  show own_S p e below T155 m 200 _ [(.ref it_101)] _
  refine st162.trans ?_
  show own_S p e below T162 m 205 _ [(.int 1)] _
  refine XS.ifNo X162.here hx rfl (hb hby d45_205) rfl ((if0 _ _).trans (feq (by decide : ¬ ((1 : Int32) = (0 : Int32)))).1) ?_
  refine XS.aload X162.here hx rfl (hb hby d45_208) rfl rfl ?_
  show own_S p e below T162 m 210 #[oR r0, oR r1, .val (.int ((pi + (1 : Int32)) + (1 : Int32))), oR it3, oR o4, oR it5, oR l6, oR it_101, oD e1v, oV] [(.ref it_101)] _
  refine st168.trans ?_
  show own_S p e below T168 m 215 _ [(.ref x2)] _
  refine st172 _ ?_
  show own_S p e below T172 m 218 _ [(.ref x2)] _
  refine st176.trans ?_
  show own_S p e below T176 m 221 _ [(.double e2v)] _
  refine XS.dstore X176.here hx rfl (hb hby d45_221) rfl (l' := #[oR r0, oR r1, .val (.int ((pi + (1 : Int32)) + (1 : Int32))), oR it3, oR o4, oR it5, oR l6, oR it_101, oD e2v, oV]) rfl ?_
  refine XS.aloadN X176.here hx rfl (hb hby d45_223) rfl rfl ?_
  show own_S p e below T176 m 224 _ [(.ref r0)] _
  refine st178 _ ?_
  show own_S p e below T178 m 227 _ [(.ref va)] _
  refine XS.iloadN X178.here hx rfl (hb hby d45_227) rfl ?_
  refine XS.iinc X178.here hx rfl (hb hby d45_228) rfl (l' := #[oR r0, oR r1, .val (.int (((pi + (1 : Int32)) + (1 : Int32)) + (1 : Int32))), oR it3, oR o4, oR it5, oR l6, oR it_101, oD e2v, oV]) rfl ?_
  refine XS.dload X178.here hx rfl (hb hby d45_231) rfl ?_
  show own_S p e below T178 m 233 _ [(.double e2v), (.int ((pi + (1 : Int32)) + (1 : Int32))), (.ref va)] _
  refine st182 _ ?_
  show own_S p e below T182 m 234 _ [] _
  refine XS.goto X182.here hx rfl (pc0 := 234) (pc' := 198) rfl (hb hby d45_234) (by decide) (by decide) ?_
  refine XS.aload X182.here hx rfl (hb hby d45_198) rfl rfl ?_
  show own_S p e below T182 m 200 _ [(.ref it_101)] _
  refine st189.trans ?_
  show own_S p e below T189 m 205 _ [(.int 0)] _
  refine XS.ifYes X189.here hx rfl (pc0 := 205) (pc' := 237) rfl (hb hby d45_205) rfl ((if0 _ _).trans (teq (by decide : (0 : Int32) = (0 : Int32))).1) (by decide) (by decide) ?_
  refine XS.goto X189.here hx rfl (pc0 := 237) (pc' := 167) rfl (hb hby d45_237) (by decide) (by decide) ?_
  rw [hqi] at kt
  exact kt
theorem pd27 : parseMethodDescriptor "()Ljava/util/List;" = some ⟨[], some (.object "java/util/List")⟩ := by decide +kernel
theorem sn18 {Z : State} {a0 : Array Value} (hw : own_HW Z a0) : Jvm.RoadKit.slotOf Z kIV "instances" "I" ≠ Jvm.RoadKit.slotOf Z kIV "count" "I" := slot_ne (Or.inr (own_w hw 346 rfl)) (Or.inr (own_w hw 328 rfl)) (by decide) (t := .int) (t' := .int) (by decide) (by decide)
theorem sn19 {Z : State} {a0 : Array Value} (hw : own_HW Z a0) : Jvm.RoadKit.slotOf Z kIV "dimension" "I" ≠ Jvm.RoadKit.slotOf Z kIV "count" "I" := slot_ne (Or.inr (own_w hw 360 rfl)) (Or.inr (own_w hw 328 rfl)) (by decide) (t := .int) (t' := .int) (by decide) (by decide)
theorem sn20 {Z : State} {a0 : Array Value} (hw : own_HW Z a0) : Jvm.RoadKit.slotOf Z kIV "dimension" "I" ≠ Jvm.RoadKit.slotOf Z kIV "instances" "I" := slot_ne (Or.inr (own_w hw 360 rfl)) (Or.inr (own_w hw 346 rfl)) (by decide) (t := .int) (t' := .int) (by decide) (by decide)
theorem sn21 {Z : State} {a0 : Array Value} (hw : own_HW Z a0) : Jvm.RoadKit.slotOf Z kIV "vectors" "I" ≠ Jvm.RoadKit.slotOf Z kIV "count" "I" := slot_ne (Or.inl (own_w hw 362 rfl)) (Or.inr (own_w hw 328 rfl)) (by decide) (t := .int) (t' := .int) (by decide) (by decide)
theorem sn22 {Z : State} {a0 : Array Value} (hw : own_HW Z a0) : Jvm.RoadKit.slotOf Z kIV "vectors" "I" ≠ Jvm.RoadKit.slotOf Z kIV "instances" "I" := slot_ne (Or.inl (own_w hw 362 rfl)) (Or.inr (own_w hw 346 rfl)) (by decide) (t := .int) (t' := .int) (by decide) (by decide)
theorem sn23 {Z : State} {a0 : Array Value} (hw : own_HW Z a0) : Jvm.RoadKit.slotOf Z kIV "vectors" "I" ≠ Jvm.RoadKit.slotOf Z kIV "dimension" "I" := slot_ne (Or.inl (own_w hw 362 rfl)) (Or.inr (own_w hw 360 rfl)) (by decide) (t := .int) (t' := .int) (by decide) (by decide)
theorem pd28 : parseMethodDescriptor "(J)I" = some ⟨[.long], some .int⟩ := by decide +kernel
theorem sn24 {Z : State} {a0 : Array Value} (hw : own_HW Z a0) : Jvm.RoadKit.slotOf Z kIV "values" "[D" ≠ Jvm.RoadKit.slotOf Z kIV "count" "I" := slot_ne (Or.inl (own_w hw 368 rfl)) (Or.inr (own_w hw 328 rfl)) (by decide) (t := (.array .double)) (t' := .int) (by decide) (by decide)
theorem sn25 {Z : State} {a0 : Array Value} (hw : own_HW Z a0) : Jvm.RoadKit.slotOf Z kIV "values" "[D" ≠ Jvm.RoadKit.slotOf Z kIV "instances" "I" := slot_ne (Or.inl (own_w hw 368 rfl)) (Or.inr (own_w hw 346 rfl)) (by decide) (t := (.array .double)) (t' := .int) (by decide) (by decide)
theorem sn26 {Z : State} {a0 : Array Value} (hw : own_HW Z a0) : Jvm.RoadKit.slotOf Z kIV "values" "[D" ≠ Jvm.RoadKit.slotOf Z kIV "dimension" "I" := slot_ne (Or.inl (own_w hw 368 rfl)) (Or.inr (own_w hw 360 rfl)) (by decide) (t := (.array .double)) (t' := .int) (by decide) (by decide)
theorem sn27 {Z : State} {a0 : Array Value} (hw : own_HW Z a0) : Jvm.RoadKit.slotOf Z kIV "values" "[D" ≠ Jvm.RoadKit.slotOf Z kIV "vectors" "I" := slot_ne (Or.inl (own_w hw 368 rfl)) (Or.inl (own_w hw 362 rfl)) (by decide) (t := (.array .double)) (t' := .int) (by decide) (by decide)
theorem sn28 {Z : State} {a0 : Array Value} (hw : own_HW Z a0) : Jvm.RoadKit.slotOf Z kIV "sums" "[D" ≠ Jvm.RoadKit.slotOf Z kIV "count" "I" := slot_ne (Or.inl (own_w hw 420 rfl)) (Or.inr (own_w hw 328 rfl)) (by decide) (t := (.array .double)) (t' := .int) (by decide) (by decide)
theorem sn29 {Z : State} {a0 : Array Value} (hw : own_HW Z a0) : Jvm.RoadKit.slotOf Z kIV "sums" "[D" ≠ Jvm.RoadKit.slotOf Z kIV "instances" "I" := slot_ne (Or.inl (own_w hw 420 rfl)) (Or.inr (own_w hw 346 rfl)) (by decide) (t := (.array .double)) (t' := .int) (by decide) (by decide)
theorem sn30 {Z : State} {a0 : Array Value} (hw : own_HW Z a0) : Jvm.RoadKit.slotOf Z kIV "sums" "[D" ≠ Jvm.RoadKit.slotOf Z kIV "dimension" "I" := slot_ne (Or.inl (own_w hw 420 rfl)) (Or.inr (own_w hw 360 rfl)) (by decide) (t := (.array .double)) (t' := .int) (by decide) (by decide)
theorem sn31 {Z : State} {a0 : Array Value} (hw : own_HW Z a0) : Jvm.RoadKit.slotOf Z kIV "sums" "[D" ≠ Jvm.RoadKit.slotOf Z kIV "vectors" "I" := slot_ne (Or.inl (own_w hw 420 rfl)) (Or.inl (own_w hw 362 rfl)) (by decide) (t := (.array .double)) (t' := .int) (by decide) (by decide)
theorem sn32 {Z : State} {a0 : Array Value} (hw : own_HW Z a0) : Jvm.RoadKit.slotOf Z kIV "sums" "[D" ≠ Jvm.RoadKit.slotOf Z kIV "values" "[D" := slot_ne (Or.inl (own_w hw 420 rfl)) (Or.inl (own_w hw 368 rfl)) (by decide) (t := (.array .double)) (t' := (.array .double)) (by decide) (by decide)
theorem pd29 : parseMethodDescriptor "(I)D" = some ⟨[.int], some .double⟩ := by decide +kernel
theorem own_selP {Z : State} {a0 : Array Value} {y y2 : MethodName} (hs : (Jvm.Cond.selects y2.cls y2 y2).before a0 Z = true) (hcls : y2.cls = y.cls) (hp : (Jvm.Cond.privateMethod y).before a0 Z = true) (hi : (Jvm.Cond.instanceMethod y).before a0 Z = true) (hy : y.cls ≠ "java/lang/invoke/MethodHandle" ∧ y.cls ≠ "java/lang/invoke/VarHandle") : (Jvm.Cond.selects y.cls y y).before a0 Z = true := by
  obtain ⟨c2, r2, m2, -, -, q3, -, kP, hkP, hkPi⟩ := Cond.selects_spec hs
  have hc := findClass_of_methodNamed q3
  rw [hcls] at hc
  exact Jvm.Stand.selects_self_of_private hc hkP hkPi (Cond.privateMethod_at hp) hi hy
theorem sn33 {Z : State} {a0 : Array Value} (hw : own_HW Z a0) : Jvm.RoadKit.slotOf Z kIV "checks" "J" ≠ Jvm.RoadKit.slotOf Z kIV "count" "I" := slot_ne (Or.inl (own_w hw 431 rfl)) (Or.inr (own_w hw 328 rfl)) (by decide) (t := .long) (t' := .int) (by decide) (by decide)
theorem sn34 {Z : State} {a0 : Array Value} (hw : own_HW Z a0) : Jvm.RoadKit.slotOf Z kIV "checks" "J" ≠ Jvm.RoadKit.slotOf Z kIV "instances" "I" := slot_ne (Or.inl (own_w hw 431 rfl)) (Or.inr (own_w hw 346 rfl)) (by decide) (t := .long) (t' := .int) (by decide) (by decide)
theorem sn35 {Z : State} {a0 : Array Value} (hw : own_HW Z a0) : Jvm.RoadKit.slotOf Z kIV "checks" "J" ≠ Jvm.RoadKit.slotOf Z kIV "dimension" "I" := slot_ne (Or.inl (own_w hw 431 rfl)) (Or.inr (own_w hw 360 rfl)) (by decide) (t := .long) (t' := .int) (by decide) (by decide)
theorem sn36 {Z : State} {a0 : Array Value} (hw : own_HW Z a0) : Jvm.RoadKit.slotOf Z kIV "checks" "J" ≠ Jvm.RoadKit.slotOf Z kIV "vectors" "I" := slot_ne (Or.inl (own_w hw 431 rfl)) (Or.inl (own_w hw 362 rfl)) (by decide) (t := .long) (t' := .int) (by decide) (by decide)
theorem sn37 {Z : State} {a0 : Array Value} (hw : own_HW Z a0) : Jvm.RoadKit.slotOf Z kIV "checks" "J" ≠ Jvm.RoadKit.slotOf Z kIV "values" "[D" := slot_ne (Or.inl (own_w hw 431 rfl)) (Or.inl (own_w hw 368 rfl)) (by decide) (t := .long) (t' := (.array .double)) (by decide) (by decide)
theorem sn38 {Z : State} {a0 : Array Value} (hw : own_HW Z a0) : Jvm.RoadKit.slotOf Z kIV "checks" "J" ≠ Jvm.RoadKit.slotOf Z kIV "sums" "[D" := slot_ne (Or.inl (own_w hw 431 rfl)) (Or.inl (own_w hw 420 rfl)) (by decide) (t := .long) (t' := (.array .double)) (by decide) (by decide)
theorem d45_0 : decode k45 0 = .ok (.aload_n 0, 1) := by decide +kernel
theorem d45_1 : decode k45 1 = .ok (.invokespecial 1, 3) := by decide +kernel
theorem d45_4 : decode k45 4 = .ok (.aload_n 0, 1) := by decide +kernel
theorem d45_5 : decode k45 5 = .ok (.aload_n 1, 1) := by decide +kernel
theorem d45_6 : decode k45 6 = .ok (.invokeinterface 7 1, 5) := by decide +kernel
theorem d45_11 : decode k45 11 = .ok (.putfield 13, 3) := by decide +kernel
theorem d45_14 : decode k45 14 = .ok (.aload_n 0, 1) := by decide +kernel
theorem d45_15 : decode k45 15 = .ok (.aload_n 1, 1) := by decide +kernel
theorem d45_16 : decode k45 16 = .ok (.invokeinterface 19 1, 5) := by decide +kernel
theorem d45_21 : decode k45 21 = .ok (.ifCond .eq 7, 3) := by decide +kernel
theorem d45_28 : decode k45 28 = .ok (.aload_n 1, 1) := by decide +kernel
theorem d45_29 : decode k45 29 = .ok (.iconst 0, 1) := by decide +kernel
theorem d45_30 : decode k45 30 = .ok (.invokeinterface 23 2, 5) := by decide +kernel
theorem d45_35 : decode k45 35 = .ok (.checkcast 27, 3) := by decide +kernel
theorem d45_38 : decode k45 38 = .ok (.invokevirtual 29, 3) := by decide +kernel
theorem d45_41 : decode k45 41 = .ok (.invokeinterface 7 1, 5) := by decide +kernel
theorem d45_46 : decode k45 46 = .ok (.putfield 33, 3) := by decide +kernel
theorem d45_49 : decode k45 49 = .ok (.aload_n 0, 1) := by decide +kernel
theorem d45_50 : decode k45 50 = .ok (.aload_n 1, 1) := by decide +kernel
theorem d45_51 : decode k45 51 = .ok (.invokeinterface 19 1, 5) := by decide +kernel
theorem d45_56 : decode k45 56 = .ok (.ifCond .eq 7, 3) := by decide +kernel
theorem d45_63 : decode k45 63 = .ok (.aload_n 1, 1) := by decide +kernel
theorem d45_64 : decode k45 64 = .ok (.iconst 0, 1) := by decide +kernel
theorem d45_65 : decode k45 65 = .ok (.invokeinterface 23 2, 5) := by decide +kernel
theorem d45_70 : decode k45 70 = .ok (.checkcast 27, 3) := by decide +kernel
theorem d45_73 : decode k45 73 = .ok (.invokevirtual 29, 3) := by decide +kernel
theorem d45_76 : decode k45 76 = .ok (.iconst 0, 1) := by decide +kernel
theorem d45_77 : decode k45 77 = .ok (.invokeinterface 23 2, 5) := by decide +kernel
theorem d45_82 : decode k45 82 = .ok (.checkcast 8, 3) := by decide +kernel
theorem d45_85 : decode k45 85 = .ok (.invokeinterface 7 1, 5) := by decide +kernel
theorem d45_90 : decode k45 90 = .ok (.putfield 36, 3) := by decide +kernel
theorem d45_93 : decode k45 93 = .ok (.aload_n 0, 1) := by decide +kernel
theorem d45_94 : decode k45 94 = .ok (.aload_n 0, 1) := by decide +kernel
theorem d45_95 : decode k45 95 = .ok (.getfield 13, 3) := by decide +kernel
theorem d45_98 : decode k45 98 = .ok (.aload_n 0, 1) := by decide +kernel
theorem d45_99 : decode k45 99 = .ok (.getfield 33, 3) := by decide +kernel
theorem d45_102 : decode k45 102 = .ok (.imul, 1) := by decide +kernel
theorem d45_103 : decode k45 103 = .ok (.putfield 39, 3) := by decide +kernel
theorem d45_106 : decode k45 106 = .ok (.aload_n 0, 1) := by decide +kernel
theorem d45_107 : decode k45 107 = .ok (.aload_n 0, 1) := by decide +kernel
theorem d45_108 : decode k45 108 = .ok (.getfield 39, 3) := by decide +kernel
theorem d45_111 : decode k45 111 = .ok (.i2l, 1) := by decide +kernel
theorem d45_112 : decode k45 112 = .ok (.aload_n 0, 1) := by decide +kernel
theorem d45_113 : decode k45 113 = .ok (.getfield 36, 3) := by decide +kernel
theorem d45_116 : decode k45 116 = .ok (.i2l, 1) := by decide +kernel
theorem d45_117 : decode k45 117 = .ok (.lmul, 1) := by decide +kernel
theorem d45_118 : decode k45 118 = .ok (.invokestatic 41, 3) := by decide +kernel
theorem d45_121 : decode k45 121 = .ok (.newarray .double, 2) := by decide +kernel
theorem d45_123 : decode k45 123 = .ok (.putfield 47, 3) := by decide +kernel
theorem d45_126 : decode k45 126 = .ok (.iconst 0, 1) := by decide +kernel
theorem d45_127 : decode k45 127 = .ok (.istore_n 2, 1) := by decide +kernel
theorem d45_128 : decode k45 128 = .ok (.aload_n 1, 1) := by decide +kernel
theorem d45_129 : decode k45 129 = .ok (.invokeinterface 51 1, 5) := by decide +kernel
theorem d45_134 : decode k45 134 = .ok (.astore_n 3, 1) := by decide +kernel
theorem d45_135 : decode k45 135 = .ok (.aload_n 3, 1) := by decide +kernel
theorem d45_136 : decode k45 136 = .ok (.invokeinterface 55 1, 5) := by decide +kernel
theorem d45_141 : decode k45 141 = .ok (.ifCond .eq 102, 3) := by decide +kernel
theorem d45_144 : decode k45 144 = .ok (.aload_n 3, 1) := by decide +kernel
theorem d45_145 : decode k45 145 = .ok (.invokeinterface 60 1, 5) := by decide +kernel
theorem d45_150 : decode k45 150 = .ok (.checkcast 27, 3) := by decide +kernel
theorem d45_153 : decode k45 153 = .ok (.astore 4, 2) := by decide +kernel
theorem d45_155 : decode k45 155 = .ok (.aload 4, 2) := by decide +kernel
theorem d45_157 : decode k45 157 = .ok (.invokevirtual 29, 3) := by decide +kernel
theorem d45_160 : decode k45 160 = .ok (.invokeinterface 51 1, 5) := by decide +kernel
theorem d45_165 : decode k45 165 = .ok (.astore 5, 2) := by decide +kernel
theorem d45_167 : decode k45 167 = .ok (.aload 5, 2) := by decide +kernel
theorem d45_169 : decode k45 169 = .ok (.invokeinterface 55 1, 5) := by decide +kernel
theorem d45_174 : decode k45 174 = .ok (.ifCond .eq 66, 3) := by decide +kernel
theorem d45_177 : decode k45 177 = .ok (.aload 5, 2) := by decide +kernel
theorem d45_179 : decode k45 179 = .ok (.invokeinterface 60 1, 5) := by decide +kernel
theorem d45_184 : decode k45 184 = .ok (.checkcast 8, 3) := by decide +kernel
theorem d45_187 : decode k45 187 = .ok (.astore 6, 2) := by decide +kernel
theorem d45_240 : decode k45 240 = .ok (.goto (-105), 3) := by decide +kernel
theorem d45_243 : decode k45 243 = .ok (.aload_n 0, 1) := by decide +kernel
theorem d45_244 : decode k45 244 = .ok (.aload_n 0, 1) := by decide +kernel
theorem d45_245 : decode k45 245 = .ok (.getfield 39, 3) := by decide +kernel
theorem d45_248 : decode k45 248 = .ok (.newarray .double, 2) := by decide +kernel
theorem d45_250 : decode k45 250 = .ok (.putfield 70, 3) := by decide +kernel
theorem d45_253 : decode k45 253 = .ok (.iconst 0, 1) := by decide +kernel
theorem d45_254 : decode k45 254 = .ok (.istore_n 3, 1) := by decide +kernel
theorem d45_255 : decode k45 255 = .ok (.iload_n 3, 1) := by decide +kernel
theorem d45_256 : decode k45 256 = .ok (.aload_n 0, 1) := by decide +kernel
theorem d45_257 : decode k45 257 = .ok (.getfield 39, 3) := by decide +kernel
theorem d45_260 : decode k45 260 = .ok (.if_icmp .ge 20, 3) := by decide +kernel
theorem d45_263 : decode k45 263 = .ok (.aload_n 0, 1) := by decide +kernel
theorem d45_264 : decode k45 264 = .ok (.getfield 70, 3) := by decide +kernel
theorem d45_267 : decode k45 267 = .ok (.iload_n 3, 1) := by decide +kernel
theorem d45_268 : decode k45 268 = .ok (.aload_n 0, 1) := by decide +kernel
theorem d45_269 : decode k45 269 = .ok (.iload_n 3, 1) := by decide +kernel
theorem d45_270 : decode k45 270 = .ok (.invokevirtual 73, 3) := by decide +kernel
theorem d45_273 : decode k45 273 = .ok (.dastore, 1) := by decide +kernel
theorem d45_274 : decode k45 274 = .ok (.iinc 3 1, 3) := by decide +kernel
theorem d45_277 : decode k45 277 = .ok (.goto (-22), 3) := by decide +kernel
theorem d45_280 : decode k45 280 = .ok (.return_, 1) := by decide +kernel
theorem efm45 (m : MethodId) (r0 : Addr) (r1 : Addr) : entryFrame m #[(.ref r0), (.ref r1)] 10 = mkF m 0 #[oR r0, oR r1, oU, oU, oU, oU, oU, oU, oU, oU] [] := by first | (simp [entryFrame, mkF, argsToLocals, Value.category]; done) | rfl
def Qm45 (Z : State) (r0 : Addr) (r1 : Addr) (w0 : Value) (w1 : Value) (w2 : Value) (w3 : Value) (w4 : Value) (w5 : Value) (w6 : Value) (wn0 : Value) (el : Addr) (em : Addr) (o0 : Addr) (L0 : Addr) (N00 : Addr) (N01 : Addr) (A00 : Addr) (A01 : Addr) (x000 : Addr) (x001 : Addr) (x002 : Addr) (x010 : Addr) (x011 : Addr) (x012 : Addr) (kel : ClassId) (kA00 : ClassId) (kA01 : ClassId) (d000 : UInt64) (d001 : UInt64) (d002 : UInt64) (d010 : UInt64) (d011 : UInt64) (d012 : UInt64) (h0 : Heap) (n0 : Nat) (v : Option Value) (h : Heap) (L : List Loc) : Prop := ∃ va : Addr, ∃ kva : ClassId, v = none ∧ Fr n0 L ∧ (Keep h0 h [r0]) ∧ (h0.size ≤ va) ∧ (Fld Z h r0 kIV "values" "[D" (.ref va)) ∧ (Fld Z h r0 kIV "dimension" "I" (.int 3)) ∧ (Fld Z h r0 kIV "checks" "J" w6) ∧ (Arv Z h va kva .double (6 : Int32) [(.double d000), (.double d001), (.double d002), (.double d010), (.double d011), (.double d012)] (.double 0)) ∧ (Exa Z h va "[D")
set_option maxRecDepth 65536 in
set_option maxHeartbeats 40000000 in
theorem rmm45 (l : Launch) (Z : State) (a0 : Array Value) (hw : own_HW Z a0) (ws : List Jvm.Cond) (r0 : Addr) (r1 : Addr) (w0 : Value) (w1 : Value) (w2 : Value) (w3 : Value) (w4 : Value) (w5 : Value) (w6 : Value) (wn0 : Value) (el : Addr) (em : Addr) (o0 : Addr) (L0 : Addr) (N00 : Addr) (N01 : Addr) (A00 : Addr) (A01 : Addr) (x000 : Addr) (x001 : Addr) (x002 : Addr) (x010 : Addr) (x011 : Addr) (x012 : Addr) (kel : ClassId) (kA00 : ClassId) (kA01 : ClassId) (d000 : UInt64) (d001 : UInt64) (d002 : UInt64) (d010 : UInt64) (d011 : UInt64) (d012 : UInt64) (h0 : Heap) (n0 : Nat) (Z0 : n0 ≤ h0.size) (E_r0 : Exa Z h0 r0 kIV) (g_r0 : n0 ≤ r0) (F_count_r0 : Fld Z h0 r0 kIV "count" "I" w0) (F_instances_r0 : Fld Z h0 r0 kIV "instances" "I" w1) (F_dimension_r0 : Fld Z h0 r0 kIV "dimension" "I" w2) (F_vectors_r0 : Fld Z h0 r0 kIV "vectors" "I" w3) (F_values_r0 : Fld Z h0 r0 kIV "values" "[D" w4) (F_sums_r0 : Fld Z h0 r0 kIV "sums" "[D" w5) (F_checks_r0 : Fld Z h0 r0 kIV "checks" "J" w6) (E_r1 : Exa Z h0 r1 kAL) (F_elementData_r1 : Fld Z h0 r1 kAL "elementData" kOA (.ref el)) (F_size_r1 : Fld Z h0 r1 kAL "size" "I" (.int 1)) (F_modCount_r1 : Fld Z h0 r1 kABL "modCount" "I" (.int 1)) (V_el : Arv Z h0 el kel (.object kOB) (10 : Int32) [(.ref o0), .null, .null, .null] .null) (E_el : Exa Z h0 el kOA) (E_o0 : Exa Z h0 o0 kMO) (F_name_o0 : Fld Z h0 o0 kMO "name" "Ljava/lang/String;" wn0) (F_vectors_o0 : Fld Z h0 o0 kMO "vectors" "Ljava/util/List;" (.ref L0)) (E_L0 : Exa Z h0 L0 kL12) (F_e0_L0 : Fld Z h0 L0 kL12 "e0" "Ljava/lang/Object;" (.ref N00)) (F_e1_L0 : Fld Z h0 L0 kL12 "e1" "Ljava/lang/Object;" (.ref N01)) (E_N00 : Exa Z h0 N00 kLN) (F_elements_N00 : Fld Z h0 N00 kLN "elements" kOA (.ref A00)) (F_allowNulls_N00 : Fld Z h0 N00 kLN "allowNulls" "Z" (.int 0)) (V_A00 : Arv Z h0 A00 kA00 (.object kOB) (3 : Int32) [(.ref x000), (.ref x001), (.ref x002)] .null) (E_A00 : Exa Z h0 A00 kOA) (E_N01 : Exa Z h0 N01 kLN) (F_elements_N01 : Fld Z h0 N01 kLN "elements" kOA (.ref A01)) (F_allowNulls_N01 : Fld Z h0 N01 kLN "allowNulls" "Z" (.int 0)) (V_A01 : Arv Z h0 A01 kA01 (.object kOB) (3 : Int32) [(.ref x010), (.ref x011), (.ref x012)] .null) (E_A01 : Exa Z h0 A01 kOA) (E_x000 : Exa Z h0 x000 kDB) (F_value_x000 : Fld Z h0 x000 kDB "value" "D" (.double d000)) (E_x001 : Exa Z h0 x001 kDB) (F_value_x001 : Fld Z h0 x001 kDB "value" "D" (.double d001)) (E_x002 : Exa Z h0 x002 kDB) (F_value_x002 : Fld Z h0 x002 kDB "value" "D" (.double d002)) (E_x010 : Exa Z h0 x010 kDB) (F_value_x010 : Fld Z h0 x010 kDB "value" "D" (.double d010)) (E_x011 : Exa Z h0 x011 kDB) (F_value_x011 : Fld Z h0 x011 kDB "value" "D" (.double d011)) (E_x012 : Exa Z h0 x012 kDB) (F_value_x012 : Fld Z h0 x012 kDB "value" "D" (.double d012)) (hOld : Old Z n0 h0) (S_EMPTY : Sta Z Z.heap "java/util/ImmutableCollections" "EMPTY" "Ljava/lang/Object;" (.ref em)) (E_em : Exa Z Z.heap em kOB) (ne_N01_em : N01 ≠ em) (ha0 : NoNaN64 (FP.dadd (0 : UInt64) d000)) (hb0_ : NoNaN64 (FP.dadd (FP.dadd (0 : UInt64) d000) d001)) (hc0_ : NoNaN64 (FP.dadd (FP.dadd (FP.dadd (0 : UInt64) d000) d001) d002)) (ha1 : NoNaN64 (FP.dadd (0 : UInt64) d010)) (hb1_ : NoNaN64 (FP.dadd (FP.dadd (0 : UInt64) d010) d011)) (hc1_ : NoNaN64 (FP.dadd (FP.dadd (FP.dadd (0 : UInt64) d010) d011) d012)) :
    MetFree l (⟨kIV, "<init>", "(Ljava/util/List;)V"⟩ : MethodName) (head1 (Jvm.Cond.code (⟨kIV, "<init>", "(Ljava/util/List;)V"⟩ : MethodName) prog_26_method_1_code 10 none :: ws) ({ frames := 4, cells := 8, slots := 50, locals := 80 } : Room)) (fun a U => a = #[(.ref r0), (.ref r1)] ∧ Z.Warmed39 U.vm ∧ U.heap = h0) (fun _ _ _ _ _ => True) (fun _ U o U' => ∃ v L, o = .returned v ∧ Qm45 Z r0 r1 w0 w1 w2 w3 w4 w5 w6 wn0 el em o0 L0 N00 N01 A00 A01 x000 x001 x002 x010 x011 x012 kel kA00 kA01 d000 d001 d002 d010 d011 d012 h0 n0 v U'.heap L ∧ FrameEnd U o U' L ({ frames := 4, cells := 8, slots := 50, locals := 80 } : Room).cells ({ frames := 4, cells := 8, slots := 50, locals := 80 } : Room).slots) := by
  refine MetFree.of_bodySF (plainFor_of_name pn18) hisR ?_
  intro p e s m args below meth c s₁ Bd hml0 hP hK
  obtain ⟨rfl, hZ, hh⟩ := hP
  have hx := Bd.exec
  have hby := Bd.bytes
  have hml : c.maxLocals = 10 := hml0
  have hown : s.vm.findClass kIV = some m.cls := findClass_of_methodNamed Bd.named
  have hnm := (name_of_methodNamed Bd.named Bd.method).1
  have X0 : Stand p l e ({ frames := 4, cells := 8, slots := 50, locals := 80 } : Room) s m #[(.ref r0), (.ref r1)] below meth c s₁ [] 0 0 := Stand.of_body Bd
  have e0 : s₁.heap = h0 := by rw [← hh, Bd.state]; rfl
  have N0 := Fr.nil n0
  have pre0 : ∀ t, Steps p.tables e below (s₁.setTop (mkF m 0 #[oR r0, oR r1, oU, oU, oU, oU, oU, oU, oU, oU] [])) t → Steps p.tables e below (s₁.setTop (entryFrame m #[(.ref r0), (.ref r1)] 10)) t := fun t k => castTop (efm45 m r0 r1) k
  obtain ⟨T101, X101, e101, st101⟩ := initO X0 hx hZ hown (own_w hw 325 rfl) (own_w hw 23 rfl) (own_w hw 24 rfl) e0 (g := (mkF m 1 #[oR r0, oR r1, oU, oU, oU, oU, oU, oU, oU, oU] [(.ref r0)])) rfl (by rw [hml]; rfl) rfl (hb hby d45_1) (by decide) (W := 0) (by show 2 * 0 + _ ≤ _; exact Nat.le_of_eq rfl) (by decide)
  obtain ⟨_, T102, L102, X102, hQ102, st102⟩ := own_cI X101 hx hZ hw hown (b := r1) (W := 1) (rmm22 l Z a0 hw [] r1 (1 : Int32) h0 n0 Z0 F_size_r1) (by decide) (by decide) (by decide) 326 rfl 140 rfl 141 rfl 142 rfl 143 rfl 144 rfl 145 rfl 56 rfl 146 rfl 6 rfl e101 E_r1 (g := (mkF m 6 #[oR r0, oR r1, oU, oU, oU, oU, oU, oU, oU, oU] [(.ref r1), (.ref r0)])) rfl (by rw [hml]; rfl) (argsL := []) (rest := [(.ref r0)]) (lenOf pd19 rfl) rfl (Nat.le_of_eq rfl) (hb hby d45_6) rfl (cN := 0) rfl (by decide) (sN := 0) rfl (by decide)
  obtain ⟨rfl, Nq102, P102_0⟩ := hQ102
  have N102 := Fr.app N0 Nq102
  obtain ⟨T103, h103, X103, e103, W103, st103⟩ := putF X102 hx hZ hown (host := "") (Or.inl (own_w hw 327 rfl)) Via.refl P102_0 F_count_r0 E_r0 (Or.inr ⟨(own_w hw 328 rfl), rfl, hnm⟩) (own_w hw 320 rfl) (ty := .int) (by decide) rfl rfl (g := (mkF m 11 #[oR r0, oR r1, oU, oU, oU, oU, oU, oU, oU, oU] [(.int 1), (.ref r0)])) rfl rfl (hb hby d45_11)
  have Fw103 := F_count_r0.same W103
  have N103 := Fr.snoc X103 N102 g_r0
  have ZZ104 : n0 ≤ h103.size := Nat.le_trans Z0 (Nat.le_of_eq W103.size.symm)
  have KK105 : Keep h0 h103 [r0] := (Keep.refl h0 [r0]).wr W103 (Or.inl (List.mem_of_getElem? (i := 0) rfl))
  have nq106 : r1 ≠ r0 := (ne_exa (E_r1.wr W103) (E_r0.wr W103) (by decide))
  have Fc107 := (F_size_r1.other W103 (Or.inl nq106))
  obtain ⟨_, T108, L108, X108, hQ108, st108⟩ := own_cI X103 hx hZ hw hown (b := r1) (W := 1) (rmm17 l Z a0 hw [] r1 (1 : Int32) h103 n0 ZZ104 Fc107 (by decide)) (by decide) (by decide) (by decide) 329 rfl 111 rfl 112 rfl 113 rfl 114 rfl 115 rfl 116 rfl 56 rfl 117 rfl 6 rfl e103 (E_r1.wr W103) (g := (mkF m 16 #[oR r0, oR r1, oU, oU, oU, oU, oU, oU, oU, oU] [(.ref r1), (.ref r0)])) rfl (by rw [hml]; rfl) (argsL := []) (rest := [(.ref r0)]) (lenOf pd15 rfl) rfl (Nat.le_of_eq rfl) (hb hby d45_16) rfl (cN := 0) rfl (by decide) (sN := 0) rfl (by decide)
  obtain ⟨rfl, Nq108, P108_0⟩ := hQ108
  have N108 := Fr.app N103 Nq108
  have Fc109 := (F_elementData_r1.other W103 (Or.inl nq106))
  have nq110 : el ≠ r0 := (ne_exa (E_el.wr W103) (E_r0.wr W103) (by decide))
  obtain ⟨_, T111, L111, X111, hQ111, st111⟩ := own_cI X108 hx hZ hw hown (b := r1) (W := 1) (rmm18 l Z a0 hw [] r1 el o0 kel (10 : Int32) [(.ref o0), .null, .null, .null] (1 : Int32) h103 n0 ZZ104 Fc109 (V_el.other W103 nq110) (⟨by decide, by decide⟩) rfl Fc107 (by decide) (E_r1.wr W103)) (by decide) (by decide) (by decide) 330 rfl 119 rfl 120 rfl 121 rfl 122 rfl 123 rfl 124 rfl 56 rfl 125 rfl 6 rfl P108_0 (E_r1.wr W103) (g := (mkF m 30 #[oR r0, oR r1, oU, oU, oU, oU, oU, oU, oU, oU] [(.int 0), (.ref r1), (.ref r0)])) rfl (by rw [hml]; rfl) (argsL := [(.int 0)]) (rest := [(.ref r0)]) (lenOf pd7 rfl) rfl (Nat.le_of_eq rfl) (hb hby d45_30) rfl (cN := 0) rfl (by decide) (sN := 0) rfl (by decide)
  obtain ⟨rfl, Nq111, P111_0⟩ := hQ111
  have N111 := Fr.app N108 Nq111
  obtain ⟨T112, X112, e112, st112⟩ := castY X111 hx hZ hown (own_w hw 331 rfl) P111_0 (Ins.self (E_o0.wr W103)) (g := (mkF m 35 #[oR r0, oR r1, oU, oU, oU, oU, oU, oU, oU, oU] [(.ref o0), (.ref r0)])) rfl rfl (hb hby d45_35)
  have nq113 : o0 ≠ r0 := (ne_exa (E_o0.wr W103) (E_r0.wr W103) (by decide))
  have Fc114 := (F_name_o0.other W103 (Or.inl nq113))
  have Fc115 := (F_vectors_o0.other W103 (Or.inl nq113))
  obtain ⟨_, T116, L116, X116, hQ116, st116⟩ := own_cV X112 hx hZ hw hown (b := o0) (W := 1) (rmm46 l Z a0 hw [] o0 L0 wn0 h103 n0 ZZ104 Fc114 Fc115) (by decide) (by decide) (by decide) 333 rfl 334 rfl 336 rfl 335 rfl 337 rfl 87 rfl e112 (E_o0.wr W103) (g := (mkF m 38 #[oR r0, oR r1, oU, oU, oU, oU, oU, oU, oU, oU] [(.ref o0), (.ref r0)])) rfl (by rw [hml]; rfl) (argsL := []) (rest := [(.ref r0)]) (lenOf pd27 rfl) rfl (Nat.le_of_eq rfl) (hb hby d45_38) rfl (cN := 0) rfl (by decide) (sN := 0) rfl (by decide)
  obtain ⟨rfl, Nq116, P116_0⟩ := hQ116
  have N116 := Fr.app N111 Nq116
  have nq117 : L0 ≠ r0 := (ne_exa (E_L0.wr W103) (E_r0.wr W103) (by decide))
  have Fc118 := (F_e0_L0.other W103 (Or.inl nq117))
  have Fc119 := (F_e1_L0.other W103 (Or.inl nq117))
  obtain ⟨_, T120, L120, X120, hQ120, st120⟩ := own_cI X116 hx hZ hw hown (b := L0) (W := 1) (rmm47 l Z a0 hw [] L0 N00 N01 em h103 n0 ZZ104 Fc118 Fc119 (hOld.wr W103 g_r0) S_EMPTY E_em ne_N01_em) (by decide) (by decide) (by decide) 326 rfl 140 rfl 141 rfl 338 rfl 339 rfl 340 rfl 341 rfl 342 rfl 343 rfl 300 rfl P116_0 (E_L0.wr W103) (g := (mkF m 41 #[oR r0, oR r1, oU, oU, oU, oU, oU, oU, oU, oU] [(.ref L0), (.ref r0)])) rfl (by rw [hml]; rfl) (argsL := []) (rest := [(.ref r0)]) (lenOf pd19 rfl) rfl (Nat.le_of_eq rfl) (hb hby d45_41) rfl (cN := 0) rfl (by decide) (sN := 0) rfl (by decide)
  obtain ⟨rfl, Nq120, P120_0⟩ := hQ120
  have N120 := Fr.app N116 Nq120
  have Fc121 := (F_instances_r0.other W103 (Or.inr (sn18 hw)))
  obtain ⟨T122, h122, X122, e122, W122, st122⟩ := putF X120 hx hZ hown (host := "") (Or.inl (own_w hw 345 rfl)) Via.refl P120_0 Fc121 (E_r0.wr W103) (Or.inr ⟨(own_w hw 346 rfl), rfl, hnm⟩) (own_w hw 320 rfl) (ty := .int) (by decide) rfl rfl (g := (mkF m 46 #[oR r0, oR r1, oU, oU, oU, oU, oU, oU, oU, oU] [(.int 2), (.ref r0)])) rfl rfl (hb hby d45_46)
  have Fw122 := Fc121.same W122
  have N122 := Fr.snoc X122 N120 g_r0
  have ZZ123 : n0 ≤ h122.size := Nat.le_trans ZZ104 (Nat.le_of_eq W122.size.symm)
  have KK124 : Keep h0 h122 [r0] := KK105.wr W122 (Or.inl (List.mem_of_getElem? (i := 0) rfl))
  have Fc125 := (Fc107.other W122 (Or.inl nq106))
  have Fc127 := (E_r1.keep KK124)
  obtain ⟨_, T126, L126, X126, hQ126, st126⟩ := own_cI X122 hx hZ hw hown (b := r1) (W := 1) (rmm17 l Z a0 hw [] r1 (1 : Int32) h122 n0 ZZ123 Fc125 (by decide)) (by decide) (by decide) (by decide) 329 rfl 111 rfl 112 rfl 113 rfl 114 rfl 115 rfl 116 rfl 56 rfl 117 rfl 6 rfl e122 Fc127 (g := (mkF m 51 #[oR r0, oR r1, oU, oU, oU, oU, oU, oU, oU, oU] [(.ref r1), (.ref r0)])) rfl (by rw [hml]; rfl) (argsL := []) (rest := [(.ref r0)]) (lenOf pd15 rfl) rfl (Nat.le_of_eq rfl) (hb hby d45_51) rfl (cN := 0) rfl (by decide) (sN := 0) rfl (by decide)
  obtain ⟨rfl, Nq126, P126_0⟩ := hQ126
  have N126 := Fr.app N122 Nq126
  have Fc128 := (Fc109.other W122 (Or.inl nq106))
  have Fc129 := (V_el.keep KK124 (ninS nq110 nin0))
  obtain ⟨_, T130, L130, X130, hQ130, st130⟩ := own_cI X126 hx hZ hw hown (b := r1) (W := 1) (rmm18 l Z a0 hw [] r1 el o0 kel (10 : Int32) [(.ref o0), .null, .null, .null] (1 : Int32) h122 n0 ZZ123 Fc128 Fc129 (⟨by decide, by decide⟩) rfl Fc125 (by decide) Fc127) (by decide) (by decide) (by decide) 330 rfl 119 rfl 120 rfl 121 rfl 122 rfl 123 rfl 124 rfl 56 rfl 125 rfl 6 rfl P126_0 Fc127 (g := (mkF m 65 #[oR r0, oR r1, oU, oU, oU, oU, oU, oU, oU, oU] [(.int 0), (.ref r1), (.ref r0)])) rfl (by rw [hml]; rfl) (argsL := [(.int 0)]) (rest := [(.ref r0)]) (lenOf pd7 rfl) rfl (Nat.le_of_eq rfl) (hb hby d45_65) rfl (cN := 0) rfl (by decide) (sN := 0) rfl (by decide)
  obtain ⟨rfl, Nq130, P130_0⟩ := hQ130
  have N130 := Fr.app N126 Nq130
  have Fc131 := (E_o0.keep KK124)
  obtain ⟨T132, X132, e132, st132⟩ := castY X130 hx hZ hown (own_w hw 331 rfl) P130_0 (Ins.self Fc131) (g := (mkF m 70 #[oR r0, oR r1, oU, oU, oU, oU, oU, oU, oU, oU] [(.ref o0), (.ref r0)])) rfl rfl (hb hby d45_70)
  have Fc133 := (Fc114.other W122 (Or.inl nq113))
  have Fc134 := (Fc115.other W122 (Or.inl nq113))
  obtain ⟨_, T135, L135, X135, hQ135, st135⟩ := own_cV X132 hx hZ hw hown (b := o0) (W := 1) (rmm46 l Z a0 hw [] o0 L0 wn0 h122 n0 ZZ123 Fc133 Fc134) (by decide) (by decide) (by decide) 333 rfl 334 rfl 336 rfl 335 rfl 337 rfl 87 rfl e132 Fc131 (g := (mkF m 73 #[oR r0, oR r1, oU, oU, oU, oU, oU, oU, oU, oU] [(.ref o0), (.ref r0)])) rfl (by rw [hml]; rfl) (argsL := []) (rest := [(.ref r0)]) (lenOf pd27 rfl) rfl (Nat.le_of_eq rfl) (hb hby d45_73) rfl (cN := 0) rfl (by decide) (sN := 0) rfl (by decide)
  obtain ⟨rfl, Nq135, P135_0⟩ := hQ135
  have N135 := Fr.app N130 Nq135
  have Fc136 := (Fc118.other W122 (Or.inl nq117))
  have Fc137 := (Fc119.other W122 (Or.inl nq117))
  have Ol138 := ((hOld.wr W103 g_r0).wr W122 g_r0)
  have Fc140 := (E_L0.keep KK124)
  obtain ⟨_, T139, L139, X139, hQ139, st139⟩ := own_cI X135 hx hZ hw hown (b := L0) (W := 1) (rm_g12_0 l Z a0 hw [] L0 N00 N01 em h122 n0 ZZ123 Fc136 Fc137 Ol138 S_EMPTY E_em ne_N01_em) (by decide) (by decide) (by decide) 330 rfl 119 rfl 120 rfl 347 rfl 348 rfl 349 rfl 350 rfl 342 rfl 351 rfl 300 rfl P135_0 Fc140 (g := (mkF m 77 #[oR r0, oR r1, oU, oU, oU, oU, oU, oU, oU, oU] [(.int 0), (.ref L0), (.ref r0)])) rfl (by rw [hml]; rfl) (argsL := [(.int 0)]) (rest := [(.ref r0)]) (lenOf pd7 rfl) rfl (Nat.le_of_eq rfl) (hb hby d45_77) rfl (cN := 0) rfl (by decide) (sN := 0) rfl (by decide)
  obtain ⟨rfl, Nq139, P139_0⟩ := hQ139
  have N139 := Fr.app N135 Nq139
  have Fc141 := (E_N00.keep KK124)
  obtain ⟨T142, X142, e142, st142⟩ := castY X139 hx hZ hown (own_w hw 352 rfl) P139_0 (Ins.of_exa Fc141 (own_w hw 353 rfl)) (g := (mkF m 82 #[oR r0, oR r1, oU, oU, oU, oU, oU, oU, oU, oU] [(.ref N00), (.ref r0)])) rfl rfl (hb hby d45_82)
  have nq143 : N00 ≠ r0 := (ne_exa Fc141 ((E_r0.wr W103).wr W122) (by decide))
  have Fc144 := (F_elements_N00.keep KK124 (ninS nq143 nin0))
  have Fc145 := (F_allowNulls_N00.keep KK124 (ninS nq143 nin0))
  have Fc146 := (E_A00.keep KK124)
  have nq147 : A00 ≠ r0 := (ne_exa Fc146 ((E_r0.wr W103).wr W122) (by decide))
  have Fc148 := (V_A00.keep KK124 (ninS nq147 nin0))
  obtain ⟨_, T149, L149, X149, hQ149, st149⟩ := own_cI X142 hx hZ hw hown (b := N00) (W := 1) (rmm49 l Z a0 hw [] N00 A00 x000 x001 x002 kA00 (.int 0) h122 n0 ZZ123 Fc144 Fc145 Fc148) (by decide) (by decide) (by decide) 326 rfl 140 rfl 141 rfl 354 rfl 355 rfl 356 rfl 357 rfl 353 rfl 358 rfl 273 rfl e142 Fc141 (g := (mkF m 85 #[oR r0, oR r1, oU, oU, oU, oU, oU, oU, oU, oU] [(.ref N00), (.ref r0)])) rfl (by rw [hml]; rfl) (argsL := []) (rest := [(.ref r0)]) (lenOf pd19 rfl) rfl (Nat.le_of_eq rfl) (hb hby d45_85) rfl (cN := 0) rfl (by decide) (sN := 0) rfl (by decide)
  obtain ⟨rfl, Nq149, P149_0⟩ := hQ149
  have N149 := Fr.app N139 Nq149
  have Fc150 := ((F_dimension_r0.other W103 (Or.inr (sn19 hw))).other W122 (Or.inr (sn20 hw)))
  obtain ⟨T151, h151, X151, e151, W151, st151⟩ := putF X149 hx hZ hown (host := "") (Or.inl (own_w hw 359 rfl)) Via.refl P149_0 Fc150 ((E_r0.wr W103).wr W122) (Or.inr ⟨(own_w hw 360 rfl), rfl, hnm⟩) (own_w hw 320 rfl) (ty := .int) (by decide) rfl rfl (g := (mkF m 90 #[oR r0, oR r1, oU, oU, oU, oU, oU, oU, oU, oU] [(.int 3), (.ref r0)])) rfl rfl (hb hby d45_90)
  have Fw151 := Fc150.same W151
  have N151 := Fr.snoc X151 N149 g_r0
  have ZZ152 : n0 ≤ h151.size := Nat.le_trans ZZ123 (Nat.le_of_eq W151.size.symm)
  have KK153 : Keep h0 h151 [r0] := KK124.wr W151 (Or.inl (List.mem_of_getElem? (i := 0) rfl))
  have Fc154 := ((Fw103.other W122 (Or.inr (Ne.symm (sn18 hw)))).other W151 (Or.inr (Ne.symm (sn19 hw))))
  obtain ⟨T155, X155, e155, st155⟩ := getF X151 hx hZ hown (host := "") (Or.inl (own_w hw 327 rfl)) Via.refl e151 Fc154 (g := (mkF m 95 #[oR r0, oR r1, oU, oU, oU, oU, oU, oU, oU, oU] [(.ref r0), (.ref r0)])) rfl rfl (hb hby d45_95)
  have Fc156 := (Fw122.other W151 (Or.inr (Ne.symm (sn20 hw))))
  obtain ⟨T157, X157, e157, st157⟩ := getF X155 hx hZ hown (host := "") (Or.inl (own_w hw 345 rfl)) Via.refl e155 Fc156 (g := (mkF m 99 #[oR r0, oR r1, oU, oU, oU, oU, oU, oU, oU, oU] [(.ref r0), (.int 1), (.ref r0)])) rfl rfl (hb hby d45_99)
  have Fc158 := (((F_vectors_r0.other W103 (Or.inr (sn21 hw))).other W122 (Or.inr (sn22 hw))).other W151 (Or.inr (sn23 hw)))
  have Fc159 := (((E_r0.wr W103).wr W122).wr W151)
  obtain ⟨T160, h160, X160, e160, W160, st160⟩ := putF X157 hx hZ hown (host := "") (Or.inl (own_w hw 361 rfl)) Via.refl e157 Fc158 Fc159 (Or.inl (own_w hw 362 rfl)) (own_w hw 320 rfl) (ty := .int) (by decide) rfl rfl (g := (mkF m 103 #[oR r0, oR r1, oU, oU, oU, oU, oU, oU, oU, oU] [(.int 2), (.ref r0)])) rfl rfl (hb hby d45_103)
  have Fw160 := Fc158.same W160
  have N160 := Fr.snoc X160 N151 g_r0
  have ZZ161 : n0 ≤ h160.size := Nat.le_trans ZZ152 (Nat.le_of_eq W160.size.symm)
  have KK162 : Keep h0 h160 [r0] := KK153.wr W160 (Or.inl (List.mem_of_getElem? (i := 0) rfl))
  obtain ⟨T163, X163, e163, st163⟩ := getF X160 hx hZ hown (host := "") (Or.inl (own_w hw 361 rfl)) Via.refl e160 Fw160 (g := (mkF m 108 #[oR r0, oR r1, oU, oU, oU, oU, oU, oU, oU, oU] [(.ref r0), (.ref r0)])) rfl rfl (hb hby d45_108)
  have Fc164 := (Fw151.other W160 (Or.inr (Ne.symm (sn23 hw))))
  obtain ⟨T165, X165, e165, st165⟩ := getF X163 hx hZ hown (host := "") (Or.inl (own_w hw 359 rfl)) Via.refl e163 Fc164 (g := (mkF m 113 #[oR r0, oR r1, oU, oU, oU, oU, oU, oU, oU, oU] [(.ref r0), (.long ((2 : Int32).toInt64)), (.ref r0)])) rfl rfl (hb hby d45_113)
  obtain ⟨_, T166, L166, X166, hQ166, st166⟩ := own_cS X165 hx hZ hw hown (W := 1) (rmm50 l Z a0 hw []  h160 n0 ZZ161 ) (by decide) (by decide) (by decide) 363 rfl 364 rfl 79 rfl 365 rfl e165 (g := (mkF m 118 #[oR r0, oR r1, oU, oU, oU, oU, oU, oU, oU, oU] [(.long (6 : Int64)), (.ref r0)])) rfl (by rw [hml]; rfl) (argsL := [(.long (6 : Int64))]) (rest := [(.ref r0)]) (lenOf pd28 rfl) rfl (Nat.le_of_eq rfl) (hb hby d45_118) rfl (cN := 0) rfl (by decide) (sN := 0) rfl (by decide)
  obtain ⟨rfl, Nq166, P166_0⟩ := hQ166
  have N166 := Fr.app N160 Nq166
  obtain ⟨T167, h167, k167, X167, e167, E167, A167, Ea167, st167⟩ := newPE X166 hx hZ (own_w hw 366 rfl) P166_0 (g := (mkF m 121 #[oR r0, oR r1, oU, oU, oU, oU, oU, oU, oU, oU] [(.int 6), (.ref r0)])) rfl (hb hby d45_121) rfl (by decide) (cap := 6) (by decide) (by decide) (by decide) (by decide) (ad := "[D") (by decide)
  obtain ⟨b167, g167⟩ : ∃ z, z = h160.size := ⟨_, rfl⟩
  rw [← g167] at A167 Ea167 st167
  have g_b167 : n0 ≤ b167 := Nat.le_trans ZZ161 (Nat.le_of_eq g167.symm)
  have sz_b167 : h0.size ≤ b167 := Nat.le_trans KK162.1 (Nat.le_of_eq g167.symm)
  have ZZ168 : n0 ≤ h167.size := Nat.le_trans ZZ161 E167.1
  have KK169 : Keep h0 h167 [r0] := KK162.ext E167
  have V_b167 : Arv Z h167 b167 k167 .double (6 : Int32) [(.double 0), (.double 0), (.double 0), (.double 0), (.double 0), (.double 0)] (.double 0) := (Arv.new A167 (by decide)).pad (pad_rep [] (.double 0) 6)
  have Fc170 := (((((F_values_r0.other W103 (Or.inr (sn24 hw))).other W122 (Or.inr (sn25 hw))).other W151 (Or.inr (sn26 hw))).other W160 (Or.inr (sn27 hw))).ext E167)
  have Fc171 := ((Fc159.wr W160).ext E167)
  obtain ⟨T172, h172, X172, e172, W172, st172⟩ := putF X167 hx hZ hown (host := "") (Or.inl (own_w hw 367 rfl)) Via.refl e167 Fc170 Fc171 (Or.inl (own_w hw 368 rfl)) (own_w hw 320 rfl) (ty := (.array .double)) (by decide) rfl rfl (g := (mkF m 123 #[oR r0, oR r1, oU, oU, oU, oU, oU, oU, oU, oU] [(.ref b167), (.ref r0)])) rfl rfl (hb hby d45_123)
  have Fw172 := Fc170.same W172
  have N172 := Fr.snoc X172 N166 g_r0
  have ZZ173 : n0 ≤ h172.size := Nat.le_trans ZZ168 (Nat.le_of_eq W172.size.symm)
  have KK174 : Keep h0 h172 [r0] := KK169.wr W172 (Or.inl (List.mem_of_getElem? (i := 0) rfl))
  have Fc175 := (E_r1.keep KK174)
  have Fc176 := (F_modCount_r1.keep KK174 (ninS nq106 nin0))
  obtain ⟨_, T177, L177, X177, hQ177, st177⟩ := own_cI X172 hx hZ hw hown (b := r1) (W := 0) (rmm24 l Z a0 hw [] r1 (1 : Int32) h172 n0 ZZ173 Fc175 Fc176) (by decide) (by decide) (by decide) 369 rfl 152 rfl 153 rfl 154 rfl 155 rfl 156 rfl 157 rfl 56 rfl 158 rfl 6 rfl e172 Fc175 (g := (mkF m 129 #[oR r0, oR r1, oI 0, oU, oU, oU, oU, oU, oU, oU] [(.ref r1)])) rfl (by rw [hml]; rfl) (argsL := []) (rest := []) (lenOf pd21 rfl) rfl (Nat.le_of_eq rfl) (hb hby d45_129) rfl (cN := 2) rfl (by decide) (sN := 10) rfl (by decide)
  obtain ⟨it_177, rfl, Nq177, P177_0, P177_1, P177_2, P177_3, P177_4, P177_5, P177_6⟩ := hQ177
  have N177 := Fr.app N172 Nq177
  have g_it_177 : n0 ≤ it_177 := Nat.le_trans ZZ173 P177_1
  have sz_it_177 : h0.size ≤ it_177 := Nat.le_trans KK174.1 P177_1
  have ZZ178 : n0 ≤ T177.heap.size := Nat.le_trans ZZ173 P177_0.1
  have KK179 : Keep h0 T177.heap [r0] := Keep.trans KK174 P177_0 all0
  have Fc180 := (((((Fc125.other W151 (Or.inl nq106)).other W160 (Or.inl nq106)).ext E167).other W172 (Or.inl nq106)).keep P177_0 nin0)
  obtain ⟨_, T181, L181, X181, hQ181, st181⟩ := own_cI X177 hx hZ hw hown (b := it_177) (W := 0) (rm_hn1 l Z a0 hw [] it_177 r1 (1 : Int32) (0 : Int32) (1 : Int32) (.int (-1)) T177.heap n0 ZZ178 P177_3 P177_4 P177_5 P177_6 Fc180 (by decide)) (by decide) (by decide) (by decide) 370 rfl 175 rfl 176 rfl 177 rfl 178 rfl 179 rfl 180 rfl 181 rfl 182 rfl 161 rfl rfl P177_2 (g := (mkF m 136 #[oR r0, oR r1, oI 0, oR it_177, oU, oU, oU, oU, oU, oU] [(.ref it_177)])) rfl (by rw [hml]; rfl) (argsL := []) (rest := []) (lenOf pd15 rfl) rfl (Nat.le_of_eq rfl) (hb hby d45_136) rfl (cN := 2) rfl (by decide) (sN := 10) rfl (by decide)
  obtain ⟨rfl, Nq181, P181_0⟩ := hQ181
  have N181 := Fr.app N177 Nq181
  have Fc182 := (E_r1.keep KK179)
  have Fc183 := (F_modCount_r1.keep KK179 (ninS nq106 nin0))
  have Fc184 := (((((Fc128.other W151 (Or.inl nq106)).other W160 (Or.inl nq106)).ext E167).other W172 (Or.inl nq106)).keep P177_0 nin0)
  have Fc185 := (V_el.keep KK179 (ninS nq110 nin0))
  have Fc186 := (E_el.keep KK179)
  obtain ⟨_, T187, L187, X187, hQ187, st187⟩ := own_cI X181 hx hZ hw hown (b := it_177) (W := 0) (rmm27 l Z a0 hw [] it_177 r1 (1 : Int32) (0 : Int32) (1 : Int32) (.int (-1)) el o0 kel (10 : Int32) [(.ref o0), .null, .null, .null] T177.heap n0 ZZ178 P177_2 Fc182 g_it_177 P177_3 P177_4 P177_5 P177_6 Fc180 Fc183 Fc184 Fc185 Fc186 (by decide) (by decide) (⟨by decide, by decide⟩) rfl) (by decide) (by decide) (by decide) 371 rfl 187 rfl 188 rfl 189 rfl 190 rfl 191 rfl 192 rfl 181 rfl 193 rfl 161 rfl P181_0 P177_2 (g := (mkF m 145 #[oR r0, oR r1, oI 0, oR it_177, oU, oU, oU, oU, oU, oU] [(.ref it_177)])) rfl (by rw [hml]; rfl) (argsL := []) (rest := []) (lenOf pd22 rfl) rfl (Nat.le_of_eq rfl) (hb hby d45_145) rfl (cN := 2) rfl (by decide) (sN := 10) rfl (by decide)
  obtain ⟨rfl, Nq187, P187_0, P187_1, P187_2, P187_3, P187_4⟩ := hQ187
  have N187 := Fr.app N181 Nq187
  have ZZ188 : n0 ≤ T187.heap.size := Nat.le_trans ZZ178 P187_0.1
  have KK189 : Keep h0 T187.heap [r0] := Keep.trans KK179 P187_0 (allS (Or.inr sz_it_177) all0)
  have Fr190 : Fld Z T187.heap it_177 kITR "cursor" "I" (.int 1) := (own_fi (by decide) P187_1)
  have Fc191 := (E_o0.keep KK189)
  obtain ⟨T192, X192, e192, st192⟩ := castY X187 hx hZ hown (own_w hw 331 rfl) rfl (Ins.self Fc191) (g := (mkF m 150 #[oR r0, oR r1, oI 0, oR it_177, oU, oU, oU, oU, oU, oU] [(.ref o0)])) rfl rfl (hb hby d45_150)
  have nq193 : o0 ≠ it_177 := (ne_exa Fc191 (P177_2.keep P187_0) (by decide))
  have Fc194 := ((((((Fc133.other W151 (Or.inl nq113)).other W160 (Or.inl nq113)).ext E167).other W172 (Or.inl nq113)).keep P177_0 nin0).keep P187_0 (ninS nq193 nin0))
  have Fc195 := ((((((Fc134.other W151 (Or.inl nq113)).other W160 (Or.inl nq113)).ext E167).other W172 (Or.inl nq113)).keep P177_0 nin0).keep P187_0 (ninS nq193 nin0))
  obtain ⟨_, T196, L196, X196, hQ196, st196⟩ := own_cV X192 hx hZ hw hown (b := o0) (W := 0) (rmm46 l Z a0 hw [] o0 L0 wn0 T187.heap n0 ZZ188 Fc194 Fc195) (by decide) (by decide) (by decide) 333 rfl 334 rfl 336 rfl 335 rfl 337 rfl 87 rfl e192 Fc191 (g := (mkF m 157 #[oR r0, oR r1, oI 0, oR it_177, oR o0, oU, oU, oU, oU, oU] [(.ref o0)])) rfl (by rw [hml]; rfl) (argsL := []) (rest := []) (lenOf pd27 rfl) rfl (Nat.le_of_eq rfl) (hb hby d45_157) rfl (cN := 2) rfl (by decide) (sN := 10) rfl (by decide)
  obtain ⟨rfl, Nq196, P196_0⟩ := hQ196
  have N196 := Fr.app N187 Nq196
  have Fc197 := (E_L0.keep KK189)
  have nq198 : L0 ≠ it_177 := (ne_exa Fc197 (P177_2.keep P187_0) (by decide))
  have Fc199 := ((((((Fc136.other W151 (Or.inl nq117)).other W160 (Or.inl nq117)).ext E167).other W172 (Or.inl nq117)).keep P177_0 nin0).keep P187_0 (ninS nq198 nin0))
  have Fc200 := ((((((Fc137.other W151 (Or.inl nq117)).other W160 (Or.inl nq117)).ext E167).other W172 (Or.inl nq117)).keep P177_0 nin0).keep P187_0 (ninS nq198 nin0))
  have Ol201 := ((((((Ol138.wr W151 g_r0).wr W160 g_r0).ext E167).wr W172 g_r0).keep P177_0 all0).keep P187_0 (allS g_it_177 all0))
  obtain ⟨_, T202, L202, X202, hQ202, st202⟩ := own_cI X196 hx hZ hw hown (b := L0) (W := 0) (rm_it2 l Z a0 hw [] L0 N00 N01 em T187.heap n0 ZZ188 Fc197 Fc199 Fc200 Ol201 S_EMPTY E_em ne_N01_em) (by decide) (by decide) (by decide) 369 rfl 152 rfl 153 rfl 372 rfl 373 rfl 374 rfl 375 rfl 342 rfl 376 rfl 282 rfl P196_0 Fc197 (g := (mkF m 160 #[oR r0, oR r1, oI 0, oR it_177, oR o0, oU, oU, oU, oU, oU] [(.ref L0)])) rfl (by rw [hml]; rfl) (argsL := []) (rest := []) (lenOf pd21 rfl) rfl (Nat.le_of_eq rfl) (hb hby d45_160) rfl (cN := 3) rfl (by decide) (sN := 14) rfl (by decide)
  obtain ⟨it_202, rfl, Nq202, P202_0, P202_1, P202_2, P202_3, P202_4, P202_5, P202_6⟩ := hQ202
  have N202 := Fr.app N196 Nq202
  have g_it_202 : n0 ≤ it_202 := Nat.le_trans ZZ188 P202_1
  have sz_it_202 : h0.size ≤ it_202 := Nat.le_trans KK189.1 P202_1
  have ZZ203 : n0 ≤ T202.heap.size := Nat.le_trans ZZ188 P202_0.1
  have KK204 : Keep h0 T202.heap [r0] := Keep.trans KK189 P202_0 all0
  obtain ⟨_, T205, L205, X205, hQ205, st205⟩ := own_cI X202 hx hZ hw hown (b := it_202) (W := 0) (rm_lh1 l Z a0 hw [] it_202 (0 : Int32) (2 : Int32) (.ref L0) (.int 0) T202.heap n0 ZZ203 P202_3 P202_4 P202_5 P202_6 (by decide)) (by decide) (by decide) (by decide) 370 rfl 175 rfl 176 rfl 397 rfl 398 rfl 399 rfl 400 rfl 401 rfl 402 rfl 379 rfl rfl P202_2 (g := (mkF m 169 #[oR r0, oR r1, oI 0, oR it_177, oR o0, oR it_202, oU, oU, oU, oU] [(.ref it_202)])) rfl (by rw [hml]; rfl) (argsL := []) (rest := []) (lenOf pd15 rfl) rfl (Nat.le_of_eq rfl) (hb hby d45_169) rfl (cN := 3) rfl (by decide) (sN := 14) rfl (by decide)
  obtain ⟨rfl, Nq205, P205_0⟩ := hQ205
  have N205 := Fr.app N202 Nq205
  have Fc206 := (E_L0.keep KK204)
  obtain ⟨_, T207, L207, X207, hQ207, st207⟩ := own_cIW X205 hx hZ hw hown (b := it_202) (W := 0) (rm_ln2_0 l Z a0 hw [] it_202 L0 N00 N01 em (.int 0) T202.heap n0 ZZ203 P202_2 g_it_202 P202_3 P202_4 P202_5 P202_6 Fc206 (Fc199.keep P202_0 nin0) (Fc200.keep P202_0 nin0) (Ol201.keep P202_0 all0) S_EMPTY E_em ne_N01_em) (by decide) (by decide) (by decide) 371 rfl 187 rfl 188 rfl 403 rfl 404 rfl 405 rfl 406 rfl 401 rfl 407 rfl 379 rfl P205_0 P202_2 (g := (mkF m 179 #[oR r0, oR r1, oI 0, oR it_177, oR o0, oR it_202, oU, oU, oU, oU] [(.ref it_202)])) rfl (by rw [hml]; rfl) (argsL := []) (rest := []) (lenOf pd22 rfl) rfl (Nat.le_of_eq rfl) (hb hby d45_179) rfl (cN := 3) rfl (by decide) (sN := 14) rfl (by decide)
  obtain ⟨rfl, Nq207, P207_0, P207_1, P207_2, P207_3, P207_4⟩ := hQ207
  have N207 := Fr.app N205 Nq207
  have ZZ208 : n0 ≤ T207.heap.size := Nat.le_trans ZZ203 P207_0.1
  have KK209 : Keep h0 T207.heap [r0] := Keep.trans KK204 P207_0 (allS (Or.inr sz_it_202) all0)
  have Fc210 := (E_N00.keep KK209)
  obtain ⟨T211, X211, e211, st211⟩ := castY X207 hx hZ hown (own_w hw 352 rfl) rfl (Ins.of_exa Fc210 (own_w hw 353 rfl)) (g := (mkF m 184 #[oR r0, oR r1, oI 0, oR it_177, oR o0, oR it_202, oU, oU, oU, oU] [(.ref N00)])) rfl rfl (hb hby d45_184)
  have Fc212 := (((((Fc171.wr W172).keep P177_0).keep P187_0).keep P202_0).keep P207_0)
  have Fc213 := (((P177_2.keep P187_0).keep P202_0).keep P207_0)
  have nq214 : r0 ≠ it_177 := (ne_exa Fc212 Fc213 (by decide))
  have nq215 : r0 ≠ it_202 := (ne_exa Fc212 (P202_2.keep P207_0) (by decide))
  have Fc216 := ((((Fw172.keep P177_0 nin0).keep P187_0 (ninS nq214 nin0)).keep P202_0 nin0).keep P207_0 (ninS nq215 nin0))
  have Fc217 := (((((Ea167.wr W172).keep P177_0).keep P187_0).keep P202_0).keep P207_0)
  have nq218 : b167 ≠ r0 := (ne_exa Fc217 Fc212 (by decide))
  have nq219 : b167 ≠ it_177 := (Nat.ne_of_lt (Nat.lt_of_lt_of_le (Ea167.wr W172).lt P177_1))
  have nq220 : b167 ≠ it_202 := (Nat.ne_of_lt (Nat.lt_of_lt_of_le (((Ea167.wr W172).keep P177_0).keep P187_0).lt P202_1))
  have Fc221 := (((((V_b167.other W172 nq218).keep P177_0 nin0).keep P187_0 (ninS nq219 nin0)).keep P202_0 nin0).keep P207_0 (ninS nq220 nin0))
  have Fc222 := (F_elements_N00.keep KK209 (ninS nq143 nin0))
  have Fc223 := (F_allowNulls_N00.keep KK209 (ninS nq143 nin0))
  have Fc224 := (V_A00.keep KK209 (ninS nq147 nin0))
  have Fc225 := (E_A00.keep KK209)
  have Fc226 := (E_x000.keep KK209)
  have nq227 : x000 ≠ r0 := (ne_exa Fc226 Fc212 (by decide))
  have Fc228 := (F_value_x000.keep KK209 (ninS nq227 nin0))
  have Fc229 := (E_x001.keep KK209)
  have nq230 : x001 ≠ r0 := (ne_exa Fc229 Fc212 (by decide))
  have Fc231 := (F_value_x001.keep KK209 (ninS nq230 nin0))
  have Fc232 := (E_x002.keep KK209)
  have nq233 : x002 ≠ r0 := (ne_exa Fc232 Fc212 (by decide))
  have Fc234 := (F_value_x002.keep KK209 (ninS nq233 nin0))
  obtain ⟨it_235, T235, L235, X235, N235, P235_0, P235_1, st235⟩ := own_VS l Z a0 hw r0 r1 it_177 o0 it_202 N00 b167 A00 x000 x001 x002 k167 kA00 (0 : Int32) (3 : Int32) 0 [(.double 0), (.double 0), (.double 0), (.double 0), (.double 0), (.double 0)] (.int 0) d000 d001 d002 (oU) (oU) (oU) 3 14 T207.heap n0 ZZ208 Fc212 Fc216 Fc221 Fc217 g_b167 Fc210 Fc222 Fc223 Fc224 Fc225 Fc226 Fc228 Fc229 Fc231 Fc232 Fc234 (⟨by decide, by decide⟩) (by decide) (Nat.le_of_ble_eq_true rfl) (⟨by decide, by decide⟩) (by decide) (Nat.le_of_ble_eq_true rfl) (⟨by decide, by decide⟩) (by decide) (Nat.le_of_ble_eq_true rfl) (by decide) One.u (Or.inl ⟨rfl, rfl⟩) (by decide) (by decide) hx hby hml hZ hown hnm X211 e211 N207
  have ZZ236 : n0 ≤ T235.heap.size := Nat.le_trans ZZ208 P235_0.1
  have KK237 : Keep h0 T235.heap [r0] := Keep.trans KK209 P235_0 (allS (Or.inr sz_b167) all0)
  have Vr238 : Arv Z T235.heap b167 k167 .double (6 : Int32) [(.double d000), (.double d001), (.double d002), (.double 0), (.double 0), (.double 0)] (.double 0) := P235_1
  have Fc239 := (P207_1.keep P235_0 (ninS (Ne.symm nq220) nin0))
  have Fc240 := (P207_2.keep P235_0 (ninS (Ne.symm nq220) nin0))
  have Fc241 := (P207_3.keep P235_0 (ninS (Ne.symm nq220) nin0))
  have Fc242 := (P207_4.keep P235_0 (ninS (Ne.symm nq220) nin0))
  have Fc244 := ((P202_2.keep P207_0).keep P235_0)
  obtain ⟨_, T243, L243, X243, hQ243, st243⟩ := own_cI X235 hx hZ hw hown (b := it_202) (W := 0) (rm_lh1 l Z a0 hw [] it_202 (1 : Int32) (2 : Int32) (.ref L0) (.int 0) T235.heap n0 ZZ236 Fc239 Fc240 Fc241 Fc242 (by decide)) (by decide) (by decide) (by decide) 370 rfl 175 rfl 176 rfl 397 rfl 398 rfl 399 rfl 400 rfl 401 rfl 402 rfl 379 rfl rfl Fc244 (g := (mkF m 169 #[oR r0, oR r1, oI 3, oR it_177, oR o0, oR it_202, oR N00, oR it_235, oD d002, oV] [(.ref it_202)])) rfl (by rw [hml]; rfl) (argsL := []) (rest := []) (lenOf pd15 rfl) rfl (Nat.le_of_eq rfl) (hb hby d45_169) rfl (cN := 4) rfl (by decide) (sN := 18) rfl (by decide)
  obtain ⟨rfl, Nq243, P243_0⟩ := hQ243
  have N243 := Fr.app N235 Nq243
  have Fc245 := (E_L0.keep KK237)
  have nq246 : L0 ≠ it_202 := (ne_exa Fc245 Fc244 (by decide))
  have nq247 : L0 ≠ b167 := (ne_exa Fc245 (Fc217.keep P235_0) (by decide))
  have Fc248 := (((Fc199.keep P202_0 nin0).keep P207_0 (ninS nq246 nin0)).keep P235_0 (ninS nq247 nin0))
  have Fc249 := (((Fc200.keep P202_0 nin0).keep P207_0 (ninS nq246 nin0)).keep P235_0 (ninS nq247 nin0))
  have Ol250 := (((Ol201.keep P202_0 all0).keep P207_0 (allS g_it_202 all0)).keep P235_0 (allS g_b167 all0))
  obtain ⟨_, T251, L251, X251, hQ251, st251⟩ := own_cIW X243 hx hZ hw hown (b := it_202) (W := 0) (rm_ln2_1 l Z a0 hw [] it_202 L0 N00 N01 em (.int 0) T235.heap n0 ZZ236 Fc244 g_it_202 Fc239 Fc240 Fc241 Fc242 Fc245 Fc248 Fc249 Ol250 S_EMPTY E_em ne_N01_em) (by decide) (by decide) (by decide) 371 rfl 187 rfl 188 rfl 403 rfl 404 rfl 405 rfl 406 rfl 401 rfl 407 rfl 379 rfl P243_0 Fc244 (g := (mkF m 179 #[oR r0, oR r1, oI 3, oR it_177, oR o0, oR it_202, oR N00, oR it_235, oD d002, oV] [(.ref it_202)])) rfl (by rw [hml]; rfl) (argsL := []) (rest := []) (lenOf pd22 rfl) rfl (Nat.le_of_eq rfl) (hb hby d45_179) rfl (cN := 4) rfl (by decide) (sN := 18) rfl (by decide)
  obtain ⟨rfl, Nq251, P251_0, P251_1, P251_2, P251_3, P251_4⟩ := hQ251
  have N251 := Fr.app N243 Nq251
  have ZZ252 : n0 ≤ T251.heap.size := Nat.le_trans ZZ236 P251_0.1
  have KK253 : Keep h0 T251.heap [r0] := Keep.trans KK237 P251_0 (allS (Or.inr sz_it_202) all0)
  have Fc254 := (E_N01.keep KK253)
  obtain ⟨T255, X255, e255, st255⟩ := castY X251 hx hZ hown (own_w hw 352 rfl) rfl (Ins.of_exa Fc254 (own_w hw 353 rfl)) (g := (mkF m 184 #[oR r0, oR r1, oI 3, oR it_177, oR o0, oR it_202, oR N00, oR it_235, oD d002, oV] [(.ref N01)])) rfl rfl (hb hby d45_184)
  have Fc256 := ((Fc212.keep P235_0).keep P251_0)
  have Fc257 := ((Fc216.keep P235_0 (ninS (Ne.symm nq218) nin0)).keep P251_0 (ninS nq215 nin0))
  have Fc258 := (Vr238.keep P251_0 (ninS nq220 nin0))
  have Fc259 := ((Fc217.keep P235_0).keep P251_0)
  have nq260 : N01 ≠ r0 := (ne_exa Fc254 Fc256 (by decide))
  have Fc261 := (F_elements_N01.keep KK253 (ninS nq260 nin0))
  have Fc262 := (F_allowNulls_N01.keep KK253 (ninS nq260 nin0))
  have Fc263 := (E_A01.keep KK253)
  have nq264 : A01 ≠ r0 := (ne_exa Fc263 Fc256 (by decide))
  have Fc265 := (V_A01.keep KK253 (ninS nq264 nin0))
  have Fc266 := (E_x010.keep KK253)
  have nq267 : x010 ≠ r0 := (ne_exa Fc266 Fc256 (by decide))
  have Fc268 := (F_value_x010.keep KK253 (ninS nq267 nin0))
  have Fc269 := (E_x011.keep KK253)
  have nq270 : x011 ≠ r0 := (ne_exa Fc269 Fc256 (by decide))
  have Fc271 := (F_value_x011.keep KK253 (ninS nq270 nin0))
  have Fc272 := (E_x012.keep KK253)
  have nq273 : x012 ≠ r0 := (ne_exa Fc272 Fc256 (by decide))
  have Fc274 := (F_value_x012.keep KK253 (ninS nq273 nin0))
  obtain ⟨it_275, T275, L275, X275, N275, P275_0, P275_1, st275⟩ := own_VS l Z a0 hw r0 r1 it_177 o0 it_202 N01 b167 A01 x010 x011 x012 k167 kA01 (3 : Int32) (6 : Int32) 3 [(.double d000), (.double d001), (.double d002), (.double 0), (.double 0), (.double 0)] (.int 0) d010 d011 d012 (.val (.ref it_235)) (.val (.double d002)) (oV) 4 18 T251.heap n0 ZZ252 Fc256 Fc257 Fc258 Fc259 g_b167 Fc254 Fc261 Fc262 Fc265 Fc263 Fc266 Fc268 Fc269 Fc271 Fc272 Fc274 (⟨by decide, by decide⟩) (by decide) (Nat.le_of_ble_eq_true rfl) (⟨by decide, by decide⟩) (by decide) (Nat.le_of_ble_eq_true rfl) (⟨by decide, by decide⟩) (by decide) (Nat.le_of_ble_eq_true rfl) (by decide) (One.val rfl) (Or.inr ⟨_, rfl, rfl⟩) (by decide) (by decide) hx hby hml hZ hown hnm X255 e255 N251
  have ZZ276 : n0 ≤ T275.heap.size := Nat.le_trans ZZ252 P275_0.1
  have KK277 : Keep h0 T275.heap [r0] := Keep.trans KK253 P275_0 (allS (Or.inr sz_b167) all0)
  have Vr278 : Arv Z T275.heap b167 k167 .double (6 : Int32) [(.double d000), (.double d001), (.double d002), (.double d010), (.double d011), (.double d012)] (.double 0) := P275_1
  have Fc279 := (P251_1.keep P275_0 (ninS (Ne.symm nq220) nin0))
  have Fc280 := (P251_2.keep P275_0 (ninS (Ne.symm nq220) nin0))
  have Fc281 := (P251_3.keep P275_0 (ninS (Ne.symm nq220) nin0))
  have Fc282 := (P251_4.keep P275_0 (ninS (Ne.symm nq220) nin0))
  have Fc284 := ((Fc244.keep P251_0).keep P275_0)
  obtain ⟨_, T283, L283, X283, hQ283, st283⟩ := own_cI X275 hx hZ hw hown (b := it_202) (W := 0) (rm_lh0 l Z a0 hw [] it_202 (2 : Int32) (2 : Int32) (.ref L0) (.int 0) T275.heap n0 ZZ276 Fc279 Fc280 Fc281 Fc282 rfl) (by decide) (by decide) (by decide) 370 rfl 175 rfl 176 rfl 397 rfl 398 rfl 399 rfl 400 rfl 401 rfl 402 rfl 379 rfl rfl Fc284 (g := (mkF m 169 #[oR r0, oR r1, oI 6, oR it_177, oR o0, oR it_202, oR N01, oR it_275, oD d012, oV] [(.ref it_202)])) rfl (by rw [hml]; rfl) (argsL := []) (rest := []) (lenOf pd15 rfl) rfl (Nat.le_of_eq rfl) (hb hby d45_169) rfl (cN := 5) rfl (by decide) (sN := 22) rfl (by decide)
  obtain ⟨rfl, Nq283, P283_0⟩ := hQ283
  have N283 := Fr.app N275 Nq283
  have nq285 : it_177 ≠ it_202 := (Nat.ne_of_lt (Nat.lt_of_lt_of_le Fr190.lt P202_1))
  have Fc286 := (((((Fr190.keep P202_0 nin0).keep P207_0 (ninS nq285 nin0)).keep P235_0 (ninS (Ne.symm nq219) nin0)).keep P251_0 (ninS nq285 nin0)).keep P275_0 (ninS (Ne.symm nq219) nin0))
  have Fc287 := (((((P187_2.keep P202_0 nin0).keep P207_0 (ninS nq285 nin0)).keep P235_0 (ninS (Ne.symm nq219) nin0)).keep P251_0 (ninS nq285 nin0)).keep P275_0 (ninS (Ne.symm nq219) nin0))
  have Fc288 := (((((P187_3.keep P202_0 nin0).keep P207_0 (ninS nq285 nin0)).keep P235_0 (ninS (Ne.symm nq219) nin0)).keep P251_0 (ninS nq285 nin0)).keep P275_0 (ninS (Ne.symm nq219) nin0))
  have Fc289 := (((((P187_4.keep P202_0 nin0).keep P207_0 (ninS nq285 nin0)).keep P235_0 (ninS (Ne.symm nq219) nin0)).keep P251_0 (ninS nq285 nin0)).keep P275_0 (ninS (Ne.symm nq219) nin0))
  have Fc290 := (E_r1.keep KK277)
  have Fc291 := (((Fc213.keep P235_0).keep P251_0).keep P275_0)
  have nq292 : r1 ≠ it_177 := (ne_exa Fc290 Fc291 (by decide))
  have nq293 : r1 ≠ it_202 := (ne_exa Fc290 Fc284 (by decide))
  have nq294 : r1 ≠ b167 := (ne_exa Fc290 (Fc259.keep P275_0) (by decide))
  have Fc295 := ((((((Fc180.keep P187_0 (ninS nq292 nin0)).keep P202_0 nin0).keep P207_0 (ninS nq293 nin0)).keep P235_0 (ninS nq294 nin0)).keep P251_0 (ninS nq293 nin0)).keep P275_0 (ninS nq294 nin0))
  obtain ⟨_, T296, L296, X296, hQ296, st296⟩ := own_cI X283 hx hZ hw hown (b := it_177) (W := 0) (rm_hn0 l Z a0 hw [] it_177 r1 (1 : Int32) (1 : Int32) (1 : Int32) (.int 0) T275.heap n0 ZZ276 Fc286 Fc287 Fc288 Fc289 Fc295 rfl) (by decide) (by decide) (by decide) 370 rfl 175 rfl 176 rfl 177 rfl 178 rfl 179 rfl 180 rfl 181 rfl 182 rfl 161 rfl P283_0 Fc291 (g := (mkF m 136 #[oR r0, oR r1, oI 6, oR it_177, oR o0, oR it_202, oR N01, oR it_275, oD d012, oV] [(.ref it_177)])) rfl (by rw [hml]; rfl) (argsL := []) (rest := []) (lenOf pd15 rfl) rfl (Nat.le_of_eq rfl) (hb hby d45_136) rfl (cN := 5) rfl (by decide) (sN := 22) rfl (by decide)
  obtain ⟨rfl, Nq296, P296_0⟩ := hQ296
  have N296 := Fr.app N283 Nq296
  have Fc297 := (((((((((Fw160.ext E167).other W172 (Or.inr (Ne.symm (sn27 hw)))).keep P177_0 nin0).keep P187_0 (ninS nq214 nin0)).keep P202_0 nin0).keep P207_0 (ninS nq215 nin0)).keep P235_0 (ninS (Ne.symm nq218) nin0)).keep P251_0 (ninS nq215 nin0)).keep P275_0 (ninS (Ne.symm nq218) nin0))
  obtain ⟨T298, X298, e298, st298⟩ := getF X296 hx hZ hown (host := "") (Or.inl (own_w hw 361 rfl)) Via.refl P296_0 Fc297 (g := (mkF m 245 #[oR r0, oR r1, oI 6, oR it_177, oR o0, oR it_202, oR N01, oR it_275, oD d012, oV] [(.ref r0), (.ref r0)])) rfl rfl (hb hby d45_245)
  obtain ⟨T299, h299, k299, X299, e299, E299, A299, Ea299, st299⟩ := newPE X298 hx hZ (own_w hw 366 rfl) e298 (g := (mkF m 248 #[oR r0, oR r1, oI 6, oR it_177, oR o0, oR it_202, oR N01, oR it_275, oD d012, oV] [(.int 2), (.ref r0)])) rfl (hb hby d45_248) rfl (by decide) (cap := 2) (by decide) (by decide) (by decide) (by decide) (ad := "[D") (by decide)
  obtain ⟨b299, g299⟩ : ∃ z, z = T275.heap.size := ⟨_, rfl⟩
  rw [← g299] at A299 Ea299 st299
  have g_b299 : n0 ≤ b299 := Nat.le_trans ZZ276 (Nat.le_of_eq g299.symm)
  have sz_b299 : h0.size ≤ b299 := Nat.le_trans KK277.1 (Nat.le_of_eq g299.symm)
  have ZZ300 : n0 ≤ h299.size := Nat.le_trans ZZ276 E299.1
  have KK301 : Keep h0 h299 [r0] := KK277.ext E299
  have V_b299 : Arv Z h299 b299 k299 .double (2 : Int32) [(.double 0), (.double 0)] (.double 0) := (Arv.new A299 (by decide)).pad (pad_rep [] (.double 0) 2)
  have Fc302 := ((((((((((((((F_sums_r0.other W103 (Or.inr (sn28 hw))).other W122 (Or.inr (sn29 hw))).other W151 (Or.inr (sn30 hw))).other W160 (Or.inr (sn31 hw))).ext E167).other W172 (Or.inr (sn32 hw))).keep P177_0 nin0).keep P187_0 (ninS nq214 nin0)).keep P202_0 nin0).keep P207_0 (ninS nq215 nin0)).keep P235_0 (ninS (Ne.symm nq218) nin0)).keep P251_0 (ninS nq215 nin0)).keep P275_0 (ninS (Ne.symm nq218) nin0)).ext E299)
  have Fc303 := ((Fc256.keep P275_0).ext E299)
  obtain ⟨T304, h304, X304, e304, W304, st304⟩ := putF X299 hx hZ hown (host := "") (Or.inl (own_w hw 419 rfl)) Via.refl e299 Fc302 Fc303 (Or.inl (own_w hw 420 rfl)) (own_w hw 320 rfl) (ty := (.array .double)) (by decide) rfl rfl (g := (mkF m 250 #[oR r0, oR r1, oI 6, oR it_177, oR o0, oR it_202, oR N01, oR it_275, oD d012, oV] [(.ref b299), (.ref r0)])) rfl rfl (hb hby d45_250)
  have Fw304 := Fc302.same W304
  have N304 := Fr.snoc X304 N296 g_r0
  have ZZ305 : n0 ≤ h304.size := Nat.le_trans ZZ300 (Nat.le_of_eq W304.size.symm)
  have KK306 : Keep h0 h304 [r0] := KK301.wr W304 (Or.inl (List.mem_of_getElem? (i := 0) rfl))
  have Fc307 := ((Fc297.ext E299).other W304 (Or.inr (Ne.symm (sn31 hw))))
  obtain ⟨T308, X308, e308, st308⟩ := getF X304 hx hZ hown (host := "") (Or.inl (own_w hw 361 rfl)) Via.refl e304 Fc307 (g := (mkF m 257 #[oR r0, oR r1, oI 6, oI 0, oR o0, oR it_202, oR N01, oR it_275, oD d012, oV] [(.ref r0), (.int 0)])) rfl rfl (hb hby d45_257)
  obtain ⟨T309, X309, e309, st309⟩ := getF X308 hx hZ hown (host := "") (Or.inl (own_w hw 419 rfl)) Via.refl e308 Fw304 (g := (mkF m 264 #[oR r0, oR r1, oI 6, oI 0, oR o0, oR it_202, oR N01, oR it_275, oD d012, oV] [(.ref r0)])) rfl rfl (hb hby d45_264)
  have Fc310 := (((((((((((Fc164.ext E167).other W172 (Or.inr (Ne.symm (sn26 hw)))).keep P177_0 nin0).keep P187_0 (ninS nq214 nin0)).keep P202_0 nin0).keep P207_0 (ninS nq215 nin0)).keep P235_0 (ninS (Ne.symm nq218) nin0)).keep P251_0 (ninS nq215 nin0)).keep P275_0 (ninS (Ne.symm nq218) nin0)).ext E299).other W304 (Or.inr (Ne.symm (sn30 hw))))
  have Fc311 := (((Fc257.keep P275_0 (ninS (Ne.symm nq218) nin0)).ext E299).other W304 (Or.inr (Ne.symm (sn32 hw))))
  have Fc312 := ((Vr278.ext E299).other W304 nq218)
  obtain ⟨_, T313, L313, X313, hQ313, st313⟩ := own_cP X309 hx hZ hw hown (b := r0) (W := 2) (rmm56 l Z a0 hw [] r0 (0 : Int32) b167 k167 [(.double d000), (.double d001), (.double d002), (.double d010), (.double d011), (.double d012)] d000 d001 d002 h304 n0 ZZ305 (Fc303.wr W304) Fc310 Fc311 Fc312 (⟨by decide, by decide⟩) rfl (⟨by decide, by decide⟩) rfl (⟨by decide, by decide⟩) rfl ha0 hb0_ hc0_) (by decide) (by decide) (by decide) 421 rfl 422 rfl 423 rfl 424 rfl 321 rfl (own_selP (y := (⟨kIV, "sumOf", "(I)D"⟩ : MethodName)) (y2 := (⟨kIV, "compare", "(II)I"⟩ : MethodName)) (own_w hw 428 rfl) rfl (own_w hw 423 rfl) (own_w hw 422 rfl) (by decide)) e309 (Fc303.wr W304) (g := (mkF m 270 #[oR r0, oR r1, oI 6, oI 0, oR o0, oR it_202, oR N01, oR it_275, oD d012, oV] [(.int 0), (.ref r0), (.int 0), (.ref b299)])) rfl (by rw [hml]; rfl) (argsL := [(.int 0)]) (rest := [(.int 0), (.ref b299)]) (lenOf pd29 rfl) rfl (Nat.le_of_eq rfl) (hb hby d45_270) rfl (cN := 6) rfl (by decide) (sN := 24) rfl (by decide)
  obtain ⟨rfl, Nq313, P313_0⟩ := hQ313
  have N313 := Fr.app N304 Nq313
  have nq314 : b299 ≠ r0 := (ne_exa (Ea299.wr W304) (Fc303.wr W304) (by decide))
  have Fc315 := (V_b299.other W304 nq314)
  obtain ⟨cl316, Ar316, qk316, Sz316, Nz316, Hh316, Gg316⟩ := id Fc315
  have hin317 : ¬ ((0 : Int32) < 0 ∨ cl316.slots.size ≤ ((0 : Int32)).toNatClampNeg) := inb_of Sz316 ⟨by decide, by decide⟩
  obtain ⟨T318, h318, X318, e318, W318, st318⟩ := stD X313 hx hZ P313_0 Ar316 (j := (0 : Int32)) hin317 (g := (mkF m 273 #[oR r0, oR r1, oI 6, oI 0, oR o0, oR it_202, oR N01, oR it_275, oD d012, oV] [(.double (FP.dadd (FP.dadd (FP.dadd (0 : UInt64) d000) d001) d002)), (.int 0), (.ref b299)])) rfl rfl (hb hby d45_273)
  have Va318 := Arv.set Ar316 qk316 Sz316 Nz316 Hh316 Gg316 rfl W318 0 rfl (Nat.le_of_ble_eq_true rfl)
  have N318 := Fr.snoc X318 N313 g_b299
  have ZZ319 : n0 ≤ h318.size := Nat.le_trans ZZ305 (Nat.le_of_eq W318.size.symm)
  have KK320 : Keep h0 h318 [r0] := KK306.wr W318 (Or.inr sz_b299)
  have Fc321 := (Fc307.other W318 (Or.inl (Ne.symm nq314)))
  obtain ⟨T322, X322, e322, st322⟩ := getF X318 hx hZ hown (host := "") (Or.inl (own_w hw 361 rfl)) Via.refl e318 Fc321 (g := (mkF m 257 #[oR r0, oR r1, oI 6, oI 1, oR o0, oR it_202, oR N01, oR it_275, oD d012, oV] [(.ref r0), (.int 1)])) rfl rfl (hb hby d45_257)
  have Fc323 := (Fw304.other W318 (Or.inl (Ne.symm nq314)))
  obtain ⟨T324, X324, e324, st324⟩ := getF X322 hx hZ hown (host := "") (Or.inl (own_w hw 419 rfl)) Via.refl e322 Fc323 (g := (mkF m 264 #[oR r0, oR r1, oI 6, oI 1, oR o0, oR it_202, oR N01, oR it_275, oD d012, oV] [(.ref r0)])) rfl rfl (hb hby d45_264)
  have Fc325 := ((Fc303.wr W304).wr W318)
  have Fc326 := (Fc310.other W318 (Or.inl (Ne.symm nq314)))
  have Fc327 := (Fc311.other W318 (Or.inl (Ne.symm nq314)))
  have nq328 : b167 ≠ b299 := (Nat.ne_of_lt (Nat.lt_of_lt_of_le P275_1.lt (Nat.le_of_eq g299.symm)))
  obtain ⟨_, T329, L329, X329, hQ329, st329⟩ := own_cP X324 hx hZ hw hown (b := r0) (W := 2) (rmm56 l Z a0 hw [] r0 (1 : Int32) b167 k167 [(.double d000), (.double d001), (.double d002), (.double d010), (.double d011), (.double d012)] d010 d011 d012 h318 n0 ZZ319 Fc325 Fc326 Fc327 (Fc312.other W318 nq328) (⟨by decide, by decide⟩) rfl (⟨by decide, by decide⟩) rfl (⟨by decide, by decide⟩) rfl ha1 hb1_ hc1_) (by decide) (by decide) (by decide) 421 rfl 422 rfl 423 rfl 424 rfl 321 rfl (own_selP (y := (⟨kIV, "sumOf", "(I)D"⟩ : MethodName)) (y2 := (⟨kIV, "compare", "(II)I"⟩ : MethodName)) (own_w hw 428 rfl) rfl (own_w hw 423 rfl) (own_w hw 422 rfl) (by decide)) e324 Fc325 (g := (mkF m 270 #[oR r0, oR r1, oI 6, oI 1, oR o0, oR it_202, oR N01, oR it_275, oD d012, oV] [(.int 1), (.ref r0), (.int 1), (.ref b299)])) rfl (by rw [hml]; rfl) (argsL := [(.int 1)]) (rest := [(.int 1), (.ref b299)]) (lenOf pd29 rfl) rfl (Nat.le_of_eq rfl) (hb hby d45_270) rfl (cN := 6) rfl (by decide) (sN := 24) rfl (by decide)
  obtain ⟨rfl, Nq329, P329_0⟩ := hQ329
  have N329 := Fr.app N318 Nq329
  obtain ⟨cl330, Ar330, qk330, Sz330, Nz330, Hh330, Gg330⟩ := id Va318
  have hin331 : ¬ ((1 : Int32) < 0 ∨ cl330.slots.size ≤ ((1 : Int32)).toNatClampNeg) := inb_of Sz330 ⟨by decide, by decide⟩
  obtain ⟨T332, h332, X332, e332, W332, st332⟩ := stD X329 hx hZ P329_0 Ar330 (j := (1 : Int32)) hin331 (g := (mkF m 273 #[oR r0, oR r1, oI 6, oI 1, oR o0, oR it_202, oR N01, oR it_275, oD d012, oV] [(.double (FP.dadd (FP.dadd (FP.dadd (0 : UInt64) d010) d011) d012)), (.int 1), (.ref b299)])) rfl rfl (hb hby d45_273)
  have Va332 := Arv.set Ar330 qk330 Sz330 Nz330 Hh330 Gg330 rfl W332 1 rfl (Nat.le_of_ble_eq_true rfl)
  have N332 := Fr.snoc X332 N329 g_b299
  have ZZ333 : n0 ≤ h332.size := Nat.le_trans ZZ319 (Nat.le_of_eq W332.size.symm)
  have KK334 : Keep h0 h332 [r0] := KK320.wr W332 (Or.inr sz_b299)
  have Fc335 := (Fc321.other W332 (Or.inl (Ne.symm nq314)))
  obtain ⟨T336, X336, e336, st336⟩ := getF X332 hx hZ hown (host := "") (Or.inl (own_w hw 361 rfl)) Via.refl e332 Fc335 (g := (mkF m 257 #[oR r0, oR r1, oI 6, oI 2, oR o0, oR it_202, oR N01, oR it_275, oD d012, oV] [(.ref r0), (.int 2)])) rfl rfl (hb hby d45_257)
  obtain ⟨fs, hr, hrun, hended, hW, hsame⟩ := X336.leave (v := none) (fun _ => rfl)
  refine ⟨_, _, pre0 _ ?_, hrun, hended, _, _, rfl, ?_, ⟨_, rfl⟩, hW, hsame.mono (by decide) (by decide)⟩
  · show own_S p e below s₁ m 0 #[oR r0, oR r1, oU, oU, oU, oU, oU, oU, oU, oU] [] _
    refine XS.aloadN X0.here hx rfl (hb hby d45_0) rfl rfl ?_
    show own_S p e below s₁ m 1 _ [(.ref r0)] _
    refine st101 _ ?_
    show own_S p e below T101 m 4 _ [] _
    refine XS.aloadN X101.here hx rfl (hb hby d45_4) rfl rfl ?_
    refine XS.aloadN X101.here hx rfl (hb hby d45_5) rfl rfl ?_
    show own_S p e below T101 m 6 _ [(.ref r1), (.ref r0)] _
    refine st102.trans ?_
    show own_S p e below T102 m 11 _ [(.int 1), (.ref r0)] _
    refine st103 _ ?_
    show own_S p e below T103 m 14 _ [] _
    refine XS.aloadN X103.here hx rfl (hb hby d45_14) rfl rfl ?_
    refine XS.aloadN X103.here hx rfl (hb hby d45_15) rfl rfl ?_
    show own_S p e below T103 m 16 _ [(.ref r1), (.ref r0)] _
    refine st108.trans ?_
    show own_S p e below T108 m 21 _ [(.int 0), (.ref r0)] _
    refine XS.ifYes X108.here hx rfl (pc0 := 21) (pc' := 28) rfl (hb hby d45_21) rfl ((if0 _ _).trans (teq (by decide : (0 : Int32) = (0 : Int32))).1) (by decide) (by decide) ?_
    refine XS.aloadN X108.here hx rfl (hb hby d45_28) rfl rfl ?_
    refine XS.iconst X108.here hx rfl (hb hby d45_29) ?_
    show own_S p e below T108 m 30 _ [(.int 0), (.ref r1), (.ref r0)] _
    refine st111.trans ?_
    show own_S p e below T111 m 35 _ [(.ref o0), (.ref r0)] _
    refine st112 _ ?_
    show own_S p e below T112 m 38 #[oR r0, oR r1, oU, oU, oU, oU, oU, oU, oU, oU] [(.ref o0), (.ref r0)] _
    refine st116.trans ?_
    show own_S p e below T116 m 41 _ [(.ref L0), (.ref r0)] _
    refine st120.trans ?_
    show own_S p e below T120 m 46 _ [(.int 2), (.ref r0)] _
    refine st122 _ ?_
    show own_S p e below T122 m 49 _ [] _
    refine XS.aloadN X122.here hx rfl (hb hby d45_49) rfl rfl ?_
    refine XS.aloadN X122.here hx rfl (hb hby d45_50) rfl rfl ?_
    show own_S p e below T122 m 51 _ [(.ref r1), (.ref r0)] _
    refine st126.trans ?_
    show own_S p e below T126 m 56 _ [(.int 0), (.ref r0)] _
    refine XS.ifYes X126.here hx rfl (pc0 := 56) (pc' := 63) rfl (hb hby d45_56) rfl ((if0 _ _).trans (teq (by decide : (0 : Int32) = (0 : Int32))).1) (by decide) (by decide) ?_
    refine XS.aloadN X126.here hx rfl (hb hby d45_63) rfl rfl ?_
    refine XS.iconst X126.here hx rfl (hb hby d45_64) ?_
    show own_S p e below T126 m 65 _ [(.int 0), (.ref r1), (.ref r0)] _
    refine st130.trans ?_
    show own_S p e below T130 m 70 _ [(.ref o0), (.ref r0)] _
    refine st132 _ ?_
    show own_S p e below T132 m 73 _ [(.ref o0), (.ref r0)] _
    refine st135.trans ?_
    show own_S p e below T135 m 76 _ [(.ref L0), (.ref r0)] _
    refine XS.iconst X135.here hx rfl (hb hby d45_76) ?_
    show own_S p e below T135 m 77 _ [(.int 0), (.ref L0), (.ref r0)] _
    refine st139.trans ?_
    show own_S p e below T139 m 82 #[oR r0, oR r1, oU, oU, oU, oU, oU, oU, oU, oU] [(.ref N00), (.ref r0)] _
    refine st142 _ ?_
    show own_S p e below T142 m 85 _ [(.ref N00), (.ref r0)] _
    refine st149.trans ?_
    show own_S p e below T149 m 90 _ [(.int 3), (.ref r0)] _
    refine st151 _ ?_
    show own_S p e below T151 m 93 _ [] _
    refine XS.aloadN X151.here hx rfl (hb hby d45_93) rfl rfl ?_
    refine XS.aloadN X151.here hx rfl (hb hby d45_94) rfl rfl ?_
    show own_S p e below T151 m 95 _ [(.ref r0), (.ref r0)] _
    refine st155 _ ?_
    show own_S p e below T155 m 98 _ [(.int 1), (.ref r0)] _
    refine XS.aloadN X155.here hx rfl (hb hby d45_98) rfl rfl ?_
    show own_S p e below T155 m 99 #[oR r0, oR r1, oU, oU, oU, oU, oU, oU, oU, oU] [(.ref r0), (.int 1), (.ref r0)] _
    refine st157 _ ?_
    show own_S p e below T157 m 102 _ [(.int 2), (.int 1), (.ref r0)] _
    refine XS.imul X157.here hx rfl (hb hby d45_102) rfl ?_
    show own_S p e below T157 m 103 _ [(.int ((1 : Int32) * (2 : Int32))), (.ref r0)] _
    refine reI (by decide : ((1 : Int32) * (2 : Int32)) = (2 : Int32)) ?_
    show own_S p e below T157 m 103 _ [(.int 2), (.ref r0)] _
    refine st160 _ ?_
    show own_S p e below T160 m 106 _ [] _
    refine XS.aloadN X160.here hx rfl (hb hby d45_106) rfl rfl ?_
    refine XS.aloadN X160.here hx rfl (hb hby d45_107) rfl rfl ?_
    show own_S p e below T160 m 108 _ [(.ref r0), (.ref r0)] _
    refine st163 _ ?_
    show own_S p e below T163 m 111 #[oR r0, oR r1, oU, oU, oU, oU, oU, oU, oU, oU] [(.int 2), (.ref r0)] _
    refine XS.i2l X163.here hx rfl (hb hby d45_111) rfl ?_
    show own_S p e below T163 m 112 _ [(.long ((2 : Int32).toInt64)), (.ref r0)] _
    refine XS.aloadN X163.here hx rfl (hb hby d45_112) rfl rfl ?_
    show own_S p e below T163 m 113 _ [(.ref r0), (.long ((2 : Int32).toInt64)), (.ref r0)] _
    refine st165 _ ?_
    show own_S p e below T165 m 116 _ [(.int 3), (.long ((2 : Int32).toInt64)), (.ref r0)] _
    refine XS.i2l X165.here hx rfl (hb hby d45_116) rfl ?_
    show own_S p e below T165 m 117 _ [(.long ((3 : Int32).toInt64)), (.long ((2 : Int32).toInt64)), (.ref r0)] _
    refine XS.lmul X165.here hx rfl (hb hby d45_117) rfl ?_
    show own_S p e below T165 m 118 _ [(.long (((2 : Int32).toInt64) * ((3 : Int32).toInt64))), (.ref r0)] _
    refine reJ ((by decide) : (((2 : Int32).toInt64) * ((3 : Int32).toInt64)) = (6 : Int64)) ?_
    show own_S p e below T165 m 118 _ [(.long (6 : Int64)), (.ref r0)] _
    refine st166.trans ?_
    show own_S p e below T166 m 121 #[oR r0, oR r1, oU, oU, oU, oU, oU, oU, oU, oU] [(.int 6), (.ref r0)] _
    refine st167 _ ?_
    show own_S p e below T167 m 123 _ [(.ref b167), (.ref r0)] _
    refine st172 _ ?_
    show own_S p e below T172 m 126 _ [] _
    refine XS.iconst X172.here hx rfl (hb hby d45_126) ?_
    refine XS.istoreN X172.here hx rfl (hb hby d45_127) rfl (l' := #[oR r0, oR r1, oI 0, oU, oU, oU, oU, oU, oU, oU]) rfl ?_
    refine XS.aloadN X172.here hx rfl (hb hby d45_128) rfl rfl ?_
    show own_S p e below T172 m 129 _ [(.ref r1)] _
    refine st177.trans ?_
    show own_S p e below T177 m 134 _ [(.ref it_177)] _
    refine XS.astoreN X177.here hx rfl (hb hby d45_134) rfl rfl (l' := #[oR r0, oR r1, oI 0, oR it_177, oU, oU, oU, oU, oU, oU]) rfl ?_
    refine XS.aloadN X177.here hx rfl (hb hby d45_135) rfl rfl ?_
    show own_S p e below T177 m 136 _ [(.ref it_177)] _
    refine st181.trans ?_
    show own_S p e below T181 m 141 _ [(.int 1)] _
    refine XS.ifNo X181.here hx rfl (hb hby d45_141) rfl ((if0 _ _).trans (feq (by decide : ¬ ((1 : Int32) = (0 : Int32)))).1) ?_
    refine XS.aloadN X181.here hx rfl (hb hby d45_144) rfl rfl ?_
    show own_S p e below T181 m 145 _ [(.ref it_177)] _
    refine st187.trans ?_
    show own_S p e below T187 m 150 _ [(.ref o0)] _
    refine st192 _ ?_
    show own_S p e below T192 m 153 _ [(.ref o0)] _
    refine XS.astore X192.here hx rfl (hb hby d45_153) rfl rfl (l' := #[oR r0, oR r1, oI 0, oR it_177, oR o0, oU, oU, oU, oU, oU]) rfl ?_
    refine XS.aload X192.here hx rfl (hb hby d45_155) rfl rfl ?_
    show own_S p e below T192 m 157 _ [(.ref o0)] _
    refine st196.trans ?_
    show own_S p e below T196 m 160 _ [(.ref L0)] _
    refine st202.trans ?_
    show own_S p e below T202 m 165 _ [(.ref it_202)] _
    refine XS.astore X202.here hx rfl (hb hby d45_165) rfl rfl (l' := #[oR r0, oR r1, oI 0, oR it_177, oR o0, oR it_202, oU, oU, oU, oU]) rfl ?_
    refine XS.aload X202.here hx rfl (hb hby d45_167) rfl rfl ?_
    show own_S p e below T202 m 169 _ [(.ref it_202)] _
    refine st205.trans ?_
    show own_S p e below T205 m 174 _ [(.int 1)] _
    refine XS.ifNo X205.here hx rfl (hb hby d45_174) rfl ((if0 _ _).trans (feq (by decide : ¬ ((1 : Int32) = (0 : Int32)))).1) ?_
    refine XS.aload X205.here hx rfl (hb hby d45_177) rfl rfl ?_
    show own_S p e below T205 m 179 _ [(.ref it_202)] _
    refine st207.trans ?_
    show own_S p e below T207 m 184 _ [(.ref N00)] _
    refine st211 _ ?_
    show own_S p e below T211 m 187 _ [(.ref N00)] _
    refine XS.astore X211.here hx rfl (hb hby d45_187) rfl rfl (l' := #[oR r0, oR r1, oI 0, oR it_177, oR o0, oR it_202, oR N00, oU, oU, oU]) rfl ?_
    show own_S p e below T211 m 189 #[oR r0, oR r1, oI 0, oR it_177, oR o0, oR it_202, oR N00, oU, oU, oU] [] _
    refine st235 _ ?_
    show own_S p e below T235 m 167 #[oR r0, oR r1, oI 3, oR it_177, oR o0, oR it_202, oR N00, oR it_235, oD d002, oV] [] _
    refine XS.aload X235.here hx rfl (hb hby d45_167) rfl rfl ?_
    show own_S p e below T235 m 169 _ [(.ref it_202)] _
    refine st243.trans ?_
    show own_S p e below T243 m 174 _ [(.int 1)] _
    refine XS.ifNo X243.here hx rfl (hb hby d45_174) rfl ((if0 _ _).trans (feq (by decide : ¬ ((1 : Int32) = (0 : Int32)))).1) ?_
    refine XS.aload X243.here hx rfl (hb hby d45_177) rfl rfl ?_
    show own_S p e below T243 m 179 _ [(.ref it_202)] _
    refine st251.trans ?_
    show own_S p e below T251 m 184 _ [(.ref N01)] _
    refine st255 _ ?_
    show own_S p e below T255 m 187 _ [(.ref N01)] _
    refine XS.astore X255.here hx rfl (hb hby d45_187) rfl rfl (l' := #[oR r0, oR r1, oI 3, oR it_177, oR o0, oR it_202, oR N01, oR it_235, oD d002, oV]) rfl ?_
    show own_S p e below T255 m 189 #[oR r0, oR r1, oI 3, oR it_177, oR o0, oR it_202, oR N01, oR it_235, oD d002, oV] [] _
    refine st275 _ ?_
    show own_S p e below T275 m 167 #[oR r0, oR r1, oI 6, oR it_177, oR o0, oR it_202, oR N01, oR it_275, oD d012, oV] [] _
    refine XS.aload X275.here hx rfl (hb hby d45_167) rfl rfl ?_
    show own_S p e below T275 m 169 _ [(.ref it_202)] _
    refine st283.trans ?_
    show own_S p e below T283 m 174 _ [(.int 0)] _
    refine XS.ifYes X283.here hx rfl (pc0 := 174) (pc' := 240) rfl (hb hby d45_174) rfl ((if0 _ _).trans (teq (by decide : (0 : Int32) = (0 : Int32))).1) (by decide) (by decide) ?_
    refine XS.goto X283.here hx rfl (pc0 := 240) (pc' := 135) rfl (hb hby d45_240) (by decide) (by decide) ?_
    refine XS.aloadN X283.here hx rfl (hb hby d45_135) rfl rfl ?_
    show own_S p e below T283 m 136 _ [(.ref it_177)] _
    refine st296.trans ?_
    show own_S p e below T296 m 141 _ [(.int 0)] _
    refine XS.ifYes X296.here hx rfl (pc0 := 141) (pc' := 243) rfl (hb hby d45_141) rfl ((if0 _ _).trans (teq (by decide : (0 : Int32) = (0 : Int32))).1) (by decide) (by decide) ?_
    refine XS.aloadN X296.here hx rfl (hb hby d45_243) rfl rfl ?_
    refine XS.aloadN X296.here hx rfl (hb hby d45_244) rfl rfl ?_
    show own_S p e below T296 m 245 _ [(.ref r0), (.ref r0)] _
    refine st298 _ ?_
    show own_S p e below T298 m 248 _ [(.int 2), (.ref r0)] _
    refine st299 _ ?_
    show own_S p e below T299 m 250 _ [(.ref b299), (.ref r0)] _
    refine st304 _ ?_
    show own_S p e below T304 m 253 _ [] _
    refine XS.iconst X304.here hx rfl (hb hby d45_253) ?_
    refine XS.istoreN X304.here hx rfl (hb hby d45_254) rfl (l' := #[oR r0, oR r1, oI 6, oI 0, oR o0, oR it_202, oR N01, oR it_275, oD d012, oV]) rfl ?_
    refine XS.iloadN X304.here hx rfl (hb hby d45_255) rfl ?_
    refine XS.aloadN X304.here hx rfl (hb hby d45_256) rfl rfl ?_
    show own_S p e below T304 m 257 _ [(.ref r0), (.int 0)] _
    refine st308 _ ?_
    show own_S p e below T308 m 260 _ [(.int 2), (.int 0)] _
    refine XS.icmpNo X308.here hx rfl (hb hby d45_260) rfl (tlt (by decide : (0 : Int32) < (2 : Int32))).2.1 ?_
    refine XS.aloadN X308.here hx rfl (hb hby d45_263) rfl rfl ?_
    show own_S p e below T308 m 264 _ [(.ref r0)] _
    refine st309 _ ?_
    show own_S p e below T309 m 267 _ [(.ref b299)] _
    refine XS.iloadN X309.here hx rfl (hb hby d45_267) rfl ?_
    refine XS.aloadN X309.here hx rfl (hb hby d45_268) rfl rfl ?_
    refine XS.iloadN X309.here hx rfl (hb hby d45_269) rfl ?_
    show own_S p e below T309 m 270 _ [(.int 0), (.ref r0), (.int 0), (.ref b299)] _
    refine st313.trans ?_
    show own_S p e below T313 m 273 _ [(.double (FP.dadd (FP.dadd (FP.dadd (0 : UInt64) d000) d001) d002)), (.int 0), (.ref b299)] _
    refine st318 _ ?_
    show own_S p e below T318 m 274 _ [] _
    refine XS.iinc X318.here hx rfl (hb hby d45_274) rfl (l' := #[oR r0, oR r1, oI 6, oI 1, oR o0, oR it_202, oR N01, oR it_275, oD d012, oV]) rfl ?_
    refine XS.goto X318.here hx rfl (pc0 := 277) (pc' := 255) rfl (hb hby d45_277) (by decide) (by decide) ?_
    refine XS.iloadN X318.here hx rfl (hb hby d45_255) rfl ?_
    refine XS.aloadN X318.here hx rfl (hb hby d45_256) rfl rfl ?_
    show own_S p e below T318 m 257 _ [(.ref r0), (.int 1)] _
    refine st322 _ ?_
    show own_S p e below T322 m 260 _ [(.int 2), (.int 1)] _
    refine XS.icmpNo X322.here hx rfl (hb hby d45_260) rfl (tlt (by decide : (1 : Int32) < (2 : Int32))).2.1 ?_
    refine XS.aloadN X322.here hx rfl (hb hby d45_263) rfl rfl ?_
    show own_S p e below T322 m 264 _ [(.ref r0)] _
    refine st324 _ ?_
    show own_S p e below T324 m 267 #[oR r0, oR r1, oI 6, oI 1, oR o0, oR it_202, oR N01, oR it_275, oD d012, oV] [(.ref b299)] _
    refine XS.iloadN X324.here hx rfl (hb hby d45_267) rfl ?_
    refine XS.aloadN X324.here hx rfl (hb hby d45_268) rfl rfl ?_
    refine XS.iloadN X324.here hx rfl (hb hby d45_269) rfl ?_
    show own_S p e below T324 m 270 _ [(.int 1), (.ref r0), (.int 1), (.ref b299)] _
    refine st329.trans ?_
    show own_S p e below T329 m 273 _ [(.double (FP.dadd (FP.dadd (FP.dadd (0 : UInt64) d010) d011) d012)), (.int 1), (.ref b299)] _
    refine st332 _ ?_
    show own_S p e below T332 m 274 _ [] _
    refine XS.iinc X332.here hx rfl (hb hby d45_274) rfl (l' := #[oR r0, oR r1, oI 6, oI 2, oR o0, oR it_202, oR N01, oR it_275, oD d012, oV]) rfl ?_
    refine XS.goto X332.here hx rfl (pc0 := 277) (pc' := 255) rfl (hb hby d45_277) (by decide) (by decide) ?_
    refine XS.iloadN X332.here hx rfl (hb hby d45_255) rfl ?_
    refine XS.aloadN X332.here hx rfl (hb hby d45_256) rfl rfl ?_
    show own_S p e below T332 m 257 _ [(.ref r0), (.int 2)] _
    refine st336 _ ?_
    show own_S p e below T336 m 260 _ [(.int 2), (.int 2)] _
    refine XS.icmpYes X336.here hx rfl (pc0 := 260) (pc' := 280) rfl (hb hby d45_260) rfl (flt (by decide : ¬ ((2 : Int32) < (2 : Int32)))).2.1 (by decide) (by decide) ?_
    show own_S p e below T336 m 280 _ [] _
    exact X336.returnOut hx Bd.returns (hb hby d45_280) hr
  · show Qm45 Z r0 r1 w0 w1 w2 w3 w4 w5 w6 wn0 el em o0 L0 N00 N01 A00 A01 x000 x001 x002 x010 x011 x012 kel kA00 kA01 d000 d001 d002 d010 d011 d012 h0 n0 _ T336.heap _
    rw [e336]
    exact ⟨b167, k167, rfl, N332, KK334, sz_b167, (Fc327.other W332 (Or.inl (Ne.symm nq314))), (Fc326.other W332 (Or.inl (Ne.symm nq314))), (((((((((((((((((F_checks_r0.other W103 (Or.inr (sn33 hw))).other W122 (Or.inr (sn34 hw))).other W151 (Or.inr (sn35 hw))).other W160 (Or.inr (sn36 hw))).ext E167).other W172 (Or.inr (sn37 hw))).keep P177_0 nin0).keep P187_0 (ninS nq214 nin0)).keep P202_0 nin0).keep P207_0 (ninS nq215 nin0)).keep P235_0 (ninS (Ne.symm nq218) nin0)).keep P251_0 (ninS nq215 nin0)).keep P275_0 (ninS (Ne.symm nq218) nin0)).ext E299).other W304 (Or.inr (sn38 hw))).other W318 (Or.inl (Ne.symm nq314))).other W332 (Or.inl (Ne.symm nq314))), ((Fc312.other W318 nq328).other W332 nq328), (((((Fc259.keep P275_0).ext E299).wr W304).wr W318).wr W332)⟩
section OwnIV
open Jvm.FP
def own_i2 (u : Int32) : UInt64 := FP.i2d u
theorem own_fi0 {x : UInt64} (h : Core.DFin x) : ¬ (0 : Int32) < (cmpValue (FP.dcmp (x &&& 0x7fffffffffffffff) (9218868437227405311 : UInt64)) .g) := by
  have q : FP.dcmp (x &&& 0x7fffffffffffffff) (9218868437227405311 : UInt64) = some .lt ∨ FP.dcmp (x &&& 0x7fffffffffffffff) (9218868437227405311 : UInt64) = some .eq := (Core.le_max h.notNaN).mpr h
  rcases q with q | q <;> rw [q] <;> decide
theorem own_ia (u : Int32) : own_At (own_i2 u) (u.toInt * (Core.one64 : Int)) := own_int (Core.i2d_int u)
theorem own_inn (u : Int32) : NoNaN64 (own_i2 u) := own_at_nn (own_ia u)
theorem own_ifi (u : Int32) : ¬ (0 : Int32) < (cmpValue (FP.dcmp (own_i2 u &&& 0x7fffffffffffffff) (9218868437227405311 : UInt64)) .g) := own_fi0 (fin64_core.mp (own_at_fin (own_ia u)))
theorem own_dnn {i : Int} {a : UInt64} (h : Core.DInt i a) : NoNaN64 a := own_at_nn (own_int h)
theorem own_is1 (a : Int32) : NoNaN64 (FP.dadd (0 : UInt64) (own_i2 a)) := by
  have ra := rng32 a
  exact own_dnn (Core.dadd_int own_D0 (Core.i2d_int a) (by omega))
theorem own_is2 (a b : Int32) : NoNaN64 (FP.dadd (FP.dadd (0 : UInt64) (own_i2 a)) (own_i2 b)) := by
  have ra := rng32 a; have rb := rng32 b
  exact own_dnn (Core.dadd_int (Core.dadd_int own_D0 (Core.i2d_int a) (by omega)) (Core.i2d_int b) (by omega))
theorem own_is3 (a b d : Int32) : NoNaN64 (FP.dadd (FP.dadd (FP.dadd (0 : UInt64) (own_i2 a)) (own_i2 b)) (own_i2 d)) := by
  have ra := rng32 a; have rb := rng32 b; have rd := rng32 d
  exact own_dnn (Core.dadd_int (Core.dadd_int (Core.dadd_int own_D0 (Core.i2d_int a) (by omega)) (Core.i2d_int b) (by omega)) (Core.i2d_int d) (by omega))
theorem own_jcmp (u v : Int32) (o : CmpOp) : cmpValue (FP.dcmp (own_i2 u) (own_i2 v)) o = if u < v then -1 else if v < u then 1 else 0 := by
  have hp : (0 : Int) < (Core.one64 : Int) := by have := Core.one64_pos; omega
  rw [own_cmpV (own_ia u) (own_ia v)]
  rcases Int.lt_trichotomy u.toInt v.toInt with h | h | h
  · rw [if_pos (Int.mul_lt_mul_of_pos_right h hp), if_pos (Int32.lt_iff_toInt_lt.mpr h)]
  · have e : u = v := Int32.toInt_inj.mp h
    subst e
    rw [if_neg (Int.lt_irrefl _), if_pos rfl, if_neg (fun q => Int.lt_irrefl _ (Int32.lt_iff_toInt_lt.mp q)), if_neg (fun q => Int.lt_irrefl _ (Int32.lt_iff_toInt_lt.mp q))]
  · have g := Int.mul_lt_mul_of_pos_right h hp
    rw [if_neg (by omega), if_neg (by omega), if_neg (fun q => by have := Int32.lt_iff_toInt_lt.mp q; omega), if_pos (Int32.lt_iff_toInt_lt.mpr h)]
theorem own_icg (u v : Int32) : (0 : Int32) < (cmpValue (FP.dcmp (own_i2 u) (own_i2 v)) .l) ↔ v < u := by
  rw [own_jcmp]
  by_cases h : u < v
  · rw [if_pos h]; exact ⟨fun q => absurd q (by decide), fun q => by have a := Int32.lt_iff_toInt_lt.mp q; have b := Int32.lt_iff_toInt_lt.mp h; omega⟩
  · rw [if_neg h]
    by_cases g : v < u
    · rw [if_pos g]; exact ⟨fun _ => g, fun _ => by decide⟩
    · rw [if_neg g]; exact ⟨fun q => absurd q (by decide), fun q => absurd q g⟩
theorem own_icl (u v : Int32) : (cmpValue (FP.dcmp (own_i2 u) (own_i2 v)) .g) < (0 : Int32) ↔ u < v := by
  rw [own_jcmp]
  by_cases h : u < v
  · rw [if_pos h]; exact ⟨fun _ => h, fun _ => by decide⟩
  · rw [if_neg h]
    by_cases g : v < u
    · rw [if_pos g]; exact ⟨fun q => absurd q (by decide), fun q => absurd q h⟩
    · rw [if_neg g]; exact ⟨fun q => absurd q (by decide), fun q => absurd q h⟩
-- one turn of the comparison
def own_ga (u v a : Int32) : Int32 := if v < u then 1 else a
def own_lb (u v b : Int32) : Int32 := if v < u then b else if u < v then 1 else b
def own_rl (a b : Int32) : Int32 := if a = b then 0 else if a = 0 then -1 else 1
def own_rel (u0 u1 u2 v0 v1 v2 : Int32) : Int32 := own_rl (own_ga u2 v2 (own_ga u1 v1 (own_ga u0 v0 0))) (own_lb u2 v2 (own_lb u1 v1 (own_lb u0 v0 0)))
theorem own_gT {u v a x : Int32} (e : x = own_ga u v a) (h : (0 : Int32) < (cmpValue (FP.dcmp (own_i2 u) (own_i2 v)) .l)) : x = 1 := by rw [e, own_ga, if_pos ((own_icg u v).mp h)]
theorem own_gF {u v a x : Int32} (e : x = own_ga u v a) (h : ¬ (0 : Int32) < (cmpValue (FP.dcmp (own_i2 u) (own_i2 v)) .l)) : x = a := by rw [e, own_ga, if_neg (fun q => h ((own_icg u v).mpr q))]
theorem own_lT {u v b x : Int32} (e : x = own_lb u v b) (h : (0 : Int32) < (cmpValue (FP.dcmp (own_i2 u) (own_i2 v)) .l)) : x = b := by rw [e, own_lb, if_pos ((own_icg u v).mp h)]
theorem own_lFT {u v b x : Int32} (e : x = own_lb u v b) (h : ¬ (0 : Int32) < (cmpValue (FP.dcmp (own_i2 u) (own_i2 v)) .l)) (g : (cmpValue (FP.dcmp (own_i2 u) (own_i2 v)) .g) < (0 : Int32)) : x = 1 := by rw [e, own_lb, if_neg (fun q => h ((own_icg u v).mpr q)), if_pos ((own_icl u v).mp g)]
theorem own_lFF {u v b x : Int32} (e : x = own_lb u v b) (h : ¬ (0 : Int32) < (cmpValue (FP.dcmp (own_i2 u) (own_i2 v)) .l)) (g : ¬ (cmpValue (FP.dcmp (own_i2 u) (own_i2 v)) .g) < (0 : Int32)) : x = b := by rw [e, own_lb, if_neg (fun q => h ((own_icg u v).mpr q)), if_neg (fun q => g ((own_icl u v).mpr q))]
theorem own_ab {u v a b : Int32} (ha : a = own_ga u v 0) (hb : b = own_lb u v 0) (h : ¬ a = 0) : b = 0 := by
  rw [ha, own_ga] at h
  by_cases g : v < u
  · rw [hb, own_lb, if_pos g]
  · rw [if_neg g] at h; exact absurd rfl h
theorem own_r0 {a b r : Int32} (e : r = own_rl a b) (h : a = b) : r = 0 := by rw [e, own_rl, if_pos h]
theorem own_r1 {a b r : Int32} (e : r = own_rl a b) (h : ¬ a = b) (g : a = 0) : r = -1 := by rw [e, own_rl, if_neg h, if_pos g]
theorem own_r2 {a b r : Int32} (e : r = own_rl a b) (h : ¬ a = b) (g : ¬ a = 0) : r = 1 := by rw [e, own_rl, if_neg h, if_neg g]
theorem own_ga01 {u v a : Int32} (h : a = 0 ∨ a = 1) : own_ga u v a = 0 ∨ own_ga u v a = 1 := by unfold own_ga; split; exact Or.inr rfl; exact h
theorem own_lb01 {u v a : Int32} (h : a = 0 ∨ a = 1) : own_lb u v a = 0 ∨ own_lb u v a = 1 := by unfold own_lb; split; exact h; split; exact Or.inr rfl; exact h
theorem own_ga1 {u v : Int32} : own_ga u v 1 = 1 := by unfold own_ga; split <;> rfl
theorem own_lb1 {u v : Int32} : own_lb u v 1 = 1 := by unfold own_lb; split; rfl; split <;> rfl
theorem own_early {u0 u1 u2 v0 v1 v2 a1 b1 a2 b2 : Int32} (h1 : a1 = own_ga u0 v0 0) (k1 : b1 = own_lb u0 v0 0) (h2 : a2 = own_ga u1 v1 a1) (k2 : b2 = own_lb u1 v1 b1) (ha : ¬ a2 = 0) (hb : ¬ b2 = 0) : a2 = b2 ∧ (0 : Int32) = own_rel u0 u1 u2 v0 v1 v2 := by
  have e1 : a2 = 1 := by rw [h2, h1]; rcases own_ga01 (u := u1) (v := v1) (own_ga01 (u := u0) (v := v0) (Or.inl rfl)) with q | q; rw [h2, h1, q] at ha; exact absurd rfl ha; exact q
  have e2 : b2 = 1 := by rw [k2, k1]; rcases own_lb01 (u := u1) (v := v1) (own_lb01 (u := u0) (v := v0) (Or.inl rfl)) with q | q; rw [k2, k1, q] at hb; exact absurd rfl hb; exact q
  refine ⟨e1.trans e2.symm, ?_⟩
  unfold own_rel
  rw [← h1, ← k1, ← h2, ← k2, e1, e2, own_ga1, own_lb1]
  rfl
-- the law's own reckoning
def own_g (u0 u1 u2 v0 v1 v2 : Int32) : Int32 := if v0 < u0 then 1 else if v1 < u1 then 1 else if v2 < u2 then 1 else 0
theorem own_g0 {u0 u1 u2 v0 v1 v2 x : Int32} (e : x = own_g u0 u1 u2 v0 v1 v2) (h : v0 < u0) : x = 1 := by rw [e, own_g, if_pos h]
theorem own_g1 {u0 u1 u2 v0 v1 v2 x : Int32} (e : x = own_g u0 u1 u2 v0 v1 v2) (h : ¬ v0 < u0) (h1 : v1 < u1) : x = 1 := by rw [e, own_g, if_neg h, if_pos h1]
theorem own_g2 {u0 u1 u2 v0 v1 v2 x : Int32} (e : x = own_g u0 u1 u2 v0 v1 v2) (h : ¬ v0 < u0) (h1 : ¬ v1 < u1) (h2 : v2 < u2) : x = 1 := by rw [e, own_g, if_neg h, if_neg h1, if_pos h2]
theorem own_g3 {u0 u1 u2 v0 v1 v2 x : Int32} (e : x = own_g u0 u1 u2 v0 v1 v2) (h : ¬ v0 < u0) (h1 : ¬ v1 < u1) (h2 : ¬ v2 < u2) : x = 0 := by rw [e, own_g, if_neg h, if_neg h1, if_neg h2]
theorem own_asm {x y : Int32} (h : x < y) : ¬ y < x := fun q => by have a := Int32.lt_iff_toInt_lt.mp h; have b := Int32.lt_iff_toInt_lt.mp q; omega
theorem own_gag (u0 u1 u2 v0 v1 v2 : Int32) : own_ga u2 v2 (own_ga u1 v1 (own_ga u0 v0 0)) = own_g u0 u1 u2 v0 v1 v2 := by
  unfold own_ga own_g
  by_cases a : v0 < u0 <;> by_cases b : v1 < u1 <;> by_cases d : v2 < u2 <;> simp [a, b, d]
theorem own_lbg (u0 u1 u2 v0 v1 v2 : Int32) : own_lb u2 v2 (own_lb u1 v1 (own_lb u0 v0 0)) = own_g v0 v1 v2 u0 u1 u2 := by
  have lem : ∀ u v b : Int32, own_lb u v b = if u < v then 1 else b := fun u v b => by
    unfold own_lb
    by_cases a : v < u
    · rw [if_pos a, if_neg (own_asm a)]
    · rw [if_neg a]
  rw [lem, lem, lem]
  unfold own_g
  by_cases a : u0 < v0 <;> by_cases b : u1 < v1 <;> by_cases d : u2 < v2 <;> simp [a, b, d]
theorem own_relE (u0 u1 u2 v0 v1 v2 : Int32) : own_rel u0 u1 u2 v0 v1 v2 = own_rl (own_g u0 u1 u2 v0 v1 v2) (own_g v0 v1 v2 u0 u1 u2) := by unfold own_rel; rw [own_gag, own_lbg]
theorem own_g01 (u0 u1 u2 v0 v1 v2 : Int32) : own_g u0 u1 u2 v0 v1 v2 = 0 ∨ own_g u0 u1 u2 v0 v1 v2 = 1 := by
  unfold own_g; split; exact Or.inr rfl; split; exact Or.inr rfl; split; exact Or.inr rfl; exact Or.inl rfl
theorem own_x01 {u0 u1 u2 v0 v1 v2 gt lt ex : Int32} (hg : gt = own_g u0 u1 u2 v0 v1 v2) (hl : lt = own_g v0 v1 v2 u0 u1 u2) (he : ex = own_rl gt lt) : own_rel u0 u1 u2 v0 v1 v2 = ex := by rw [own_relE, ← hg, ← hl, he]
theorem own_x10 {u0 u1 u2 v0 v1 v2 gt lt ex : Int32} (hg : gt = own_g u0 u1 u2 v0 v1 v2) (hl : lt = own_g v0 v1 v2 u0 u1 u2) (he : ex = own_rl gt lt) : own_rel v0 v1 v2 u0 u1 u2 = (-ex) := by
  rw [own_relE, ← hg, ← hl, he]
  have a : gt = 0 ∨ gt = 1 := hg ▸ own_g01 ..
  have b : lt = 0 ∨ lt = 1 := hl ▸ own_g01 ..
  rcases a with rfl | rfl <;> rcases b with rfl | rfl <;> decide
theorem own_x00 (u0 u1 u2 : Int32) : own_rel u0 u1 u2 u0 u1 u2 = 0 := by rw [own_relE, own_rl, if_pos rfl]
end OwnIV
theorem d1_0 : decode k1 0 = .ok (.iload_n 0, 1) := by decide +kernel
theorem d1_1 : decode k1 1 = .ok (.bipush 7, 2) := by decide +kernel
theorem d1_3 : decode k1 3 = .ok (.iand, 1) := by decide +kernel
theorem d1_4 : decode k1 4 = .ok (.iconst 3, 1) := by decide +kernel
theorem d1_5 : decode k1 5 = .ok (.isub, 1) := by decide +kernel
theorem d1_6 : decode k1 6 = .ok (.ireturn, 1) := by decide +kernel
theorem pn19 : plainName "com/example/matchwright/matchwright/core/InstanceVectorsComparePinLaw" = true := by first | (simp [plainName, overriddenIn]; done) | decide +kernel
theorem efm1 (m : MethodId) (p0 : Int32) : entryFrame m #[(.int p0)] 1 = mkF m 0 #[oI p0] [] := by first | (simp [entryFrame, mkF, argsToLocals, Value.category]; done) | rfl
def Qm1 (Z : State) (p0 : Int32) (h0 : Heap) (n0 : Nat) (v : Option Value) (h : Heap) (L : List Loc) : Prop := v = some (.int ((p0 &&& (7 : Int32)) - (3 : Int32))) ∧ Fr n0 L ∧ (h = h0)
set_option maxRecDepth 65536 in
set_option maxHeartbeats 40000000 in
theorem rmm1 (l : Launch) (Z : State) (a0 : Array Value) (hw : own_HW Z a0) (ws : List Jvm.Cond) (p0 : Int32) (h0 : Heap) (n0 : Nat) (Z0 : n0 ≤ h0.size)  :
    MetFree l (⟨"com/example/matchwright/matchwright/core/InstanceVectorsComparePinLaw", "s", "(I)I"⟩ : MethodName) (head1 (Jvm.Cond.code (⟨"com/example/matchwright/matchwright/core/InstanceVectorsComparePinLaw", "s", "(I)I"⟩ : MethodName) method_2_code 1 (some .int) :: ws) ({ frames := 0, cells := 0, slots := 0, locals := 0 } : Room)) (fun a U => a = #[(.int p0)] ∧ Z.Warmed39 U.vm ∧ U.heap = h0) (fun _ _ _ _ _ => True) (fun _ U o U' => ∃ v L, o = .returned v ∧ Qm1 Z p0 h0 n0 v U'.heap L ∧ FrameEnd U o U' L ({ frames := 0, cells := 0, slots := 0, locals := 0 } : Room).cells ({ frames := 0, cells := 0, slots := 0, locals := 0 } : Room).slots) := by
  refine MetFree.of_bodySF (plainFor_of_name pn19) hisR ?_
  intro p e s m args below meth c s₁ Bd hml0 hP hK
  obtain ⟨rfl, hZ, hh⟩ := hP
  have hx := Bd.exec
  have hby := Bd.bytes
  have hml : c.maxLocals = 1 := hml0
  have hown : s.vm.findClass "com/example/matchwright/matchwright/core/InstanceVectorsComparePinLaw" = some m.cls := findClass_of_methodNamed Bd.named
  have hnm := (name_of_methodNamed Bd.named Bd.method).1
  have X0 : Stand p l e ({ frames := 0, cells := 0, slots := 0, locals := 0 } : Room) s m #[(.int p0)] below meth c s₁ [] 0 0 := Stand.of_body Bd
  have e0 : s₁.heap = h0 := by rw [← hh, Bd.state]; rfl
  have N0 := Fr.nil n0
  have pre0 : ∀ t, Steps p.tables e below (s₁.setTop (mkF m 0 #[oI p0] [])) t → Steps p.tables e below (s₁.setTop (entryFrame m #[(.int p0)] 1)) t := fun t k => castTop (efm1 m p0) k
  obtain ⟨fs, hr, hrun, hended, hW, hsame⟩ := X0.leave (v := some (.int ((p0 &&& (7 : Int32)) - (3 : Int32)))) (fun h => by rw [Bd.returns] at h; cases h)
  refine ⟨_, _, pre0 _ ?_, hrun, hended, _, _, rfl, ?_, ⟨_, rfl⟩, hW, hsame.mono (by decide) (by decide)⟩
  · show own_S p e below s₁ m 0 #[oI p0] [] _
    refine XS.iloadN X0.here hx rfl (hb hby d1_0) rfl ?_
    refine XS.bipush X0.here hx rfl (hb hby d1_1) ?_
    show own_S p e below s₁ m 3 _ [(.int 7), (.int p0)] _
    refine XS.iand X0.here hx rfl (hb hby d1_3) rfl ?_
    show own_S p e below s₁ m 4 _ [(.int (p0 &&& (7 : Int32)))] _
    refine XS.iconst X0.here hx rfl (hb hby d1_4) ?_
    show own_S p e below s₁ m 5 _ [(.int 3), (.int (p0 &&& (7 : Int32)))] _
    refine XS.isub X0.here hx rfl (hb hby d1_5) rfl ?_
    show own_S p e below s₁ m 6 _ [(.int ((p0 &&& (7 : Int32)) - (3 : Int32)))] _
    exact retOut X0 hx Bd.returns rfl (Or.inl ⟨rfl, Or.inl rfl, _, rfl⟩) (hb hby d1_6) hr
  · show Qm1 Z p0 h0 n0 _ s₁.heap _
    rw [e0]
    exact ⟨rfl, N0, rfl⟩
theorem d58_26 : decode k58 26 = .ok (.aload_n 0, 1) := by decide +kernel
theorem d58_27 : decode k58 27 = .ok (.getfield 47, 3) := by decide +kernel
theorem d58_30 : decode k58 30 = .ok (.iload_n 1, 1) := by decide +kernel
theorem d58_31 : decode k58 31 = .ok (.iload 5, 2) := by decide +kernel
theorem d58_33 : decode k58 33 = .ok (.iadd, 1) := by decide +kernel
theorem d58_34 : decode k58 34 = .ok (.daload, 1) := by decide +kernel
theorem d58_35 : decode k58 35 = .ok (.aload_n 0, 1) := by decide +kernel
theorem d58_36 : decode k58 36 = .ok (.getfield 47, 3) := by decide +kernel
theorem d58_39 : decode k58 39 = .ok (.iload_n 2, 1) := by decide +kernel
theorem d58_40 : decode k58 40 = .ok (.iload 5, 2) := by decide +kernel
theorem d58_42 : decode k58 42 = .ok (.iadd, 1) := by decide +kernel
theorem d58_43 : decode k58 43 = .ok (.daload, 1) := by decide +kernel
theorem d58_44 : decode k58 44 = .ok (.dcmp .l, 1) := by decide +kernel
theorem d58_45 : decode k58 45 = .ok (.ifCond .le 8, 3) := by decide +kernel
theorem d58_48 : decode k58 48 = .ok (.iconst 1, 1) := by decide +kernel
theorem d58_49 : decode k58 49 = .ok (.istore_n 3, 1) := by decide +kernel
theorem d58_50 : decode k58 50 = .ok (.goto 28, 3) := by decide +kernel
theorem d58_53 : decode k58 53 = .ok (.aload_n 0, 1) := by decide +kernel
theorem d58_54 : decode k58 54 = .ok (.getfield 47, 3) := by decide +kernel
theorem d58_57 : decode k58 57 = .ok (.iload_n 1, 1) := by decide +kernel
theorem d58_58 : decode k58 58 = .ok (.iload 5, 2) := by decide +kernel
theorem d58_60 : decode k58 60 = .ok (.iadd, 1) := by decide +kernel
theorem d58_61 : decode k58 61 = .ok (.daload, 1) := by decide +kernel
theorem d58_62 : decode k58 62 = .ok (.aload_n 0, 1) := by decide +kernel
theorem d58_63 : decode k58 63 = .ok (.getfield 47, 3) := by decide +kernel
theorem d58_66 : decode k58 66 = .ok (.iload_n 2, 1) := by decide +kernel
theorem d58_67 : decode k58 67 = .ok (.iload 5, 2) := by decide +kernel
theorem d58_69 : decode k58 69 = .ok (.iadd, 1) := by decide +kernel
theorem d58_70 : decode k58 70 = .ok (.daload, 1) := by decide +kernel
theorem d58_71 : decode k58 71 = .ok (.dcmp .g, 1) := by decide +kernel
theorem d58_72 : decode k58 72 = .ok (.ifCond .ge 6, 3) := by decide +kernel
theorem d58_75 : decode k58 75 = .ok (.iconst 1, 1) := by decide +kernel
theorem d58_76 : decode k58 76 = .ok (.istore 4, 2) := by decide +kernel
set_option maxRecDepth 65536 in
set_option maxHeartbeats 40000000 in
theorem own_IT (l : Launch) (Z : State) (a0 : Array Value) (hw : own_HW Z a0) (r0 : Addr) (va : Addr) (kva : ClassId) (p1 : Int32) (p2 : Int32) (jj : Int32) (a : Int32) (b : Int32) (a' : Int32) (b' : Int32) (uu : Int32) (vv : Int32) (vs : List Value) (h0 : Heap) (n0 : Nat) (Z0 : n0 ≤ h0.size) (E_r0 : Exa Z h0 r0 kIV) (F_values_r0 : Fld Z h0 r0 kIV "values" "[D" (.ref va)) (V_va : Arv Z h0 va kva .double (6 : Int32) vs (.double 0)) (hi1 : ¬ (p1 + jj) < (0 : Int32) ∧ (p1 + jj) < (6 : Int32)) (hi2 : ¬ (p2 + jj) < (0 : Int32) ∧ (p2 + jj) < (6 : Int32)) (hg1 : vs.getD (p1 + jj).toNatClampNeg (.double 0) = .double (own_i2 uu)) (hg2 : vs.getD (p2 + jj).toNatClampNeg (.double 0) = .double (own_i2 vv)) (ha : a' = own_ga uu vv a) (hb_ : b' = own_lb uu vv b)
    {p : Program} {e : Env} {s : State} {m : MethodId} {args : Array Value} {below : List Frame} {meth : Method} {c : Code} {s₁ : State} {Lc : List Loc} (hx : p.tables.exec = Jvm.exec) (hby : c.code = prog_26_method_15_code) (hml : c.maxLocals = 6) (hZ : Z.Warmed39 s.vm) (hown : s.vm.findClass kIV = some m.cls) (hnm : meth.name = "relation") (X0 : Stand p l e ({ frames := 0, cells := 0, slots := 0, locals := 0 } : Room) s m args below meth c s₁ Lc 0 0) (e0 : s₁.heap = h0) (N0 : Fr n0 Lc) :
    ∃ T : State, ∃ L : List Loc, Stand p l e ({ frames := 0, cells := 0, slots := 0, locals := 0 } : Room) s m args below meth c T L 0 0 ∧ Fr n0 L ∧ (Keep h0 T.heap []) ∧ ∀ t, Steps p.tables e below (T.setTop (mkF m 78 #[oR r0, oI p1, oI p2, oI (a'), oI (b'), oI jj] [])) t → Steps p.tables e below (s₁.setTop (mkF m 26 #[oR r0, oI p1, oI p2, oI a, oI b, oI jj] [])) t := by
  obtain ⟨T101, X101, e101, st101⟩ := getF X0 hx hZ hown (host := "") (Or.inl (own_w hw 367 rfl)) Via.refl e0 F_values_r0 (g := (mkF m 27 #[oR r0, oI p1, oI p2, oI a, oI b, oI jj] [(.ref r0)])) rfl rfl (hb hby d58_27)
  obtain ⟨cl102, Ar102, qk102, Sz102, Nz102, Hh102, Gg102⟩ := id V_va
  have hin103 : ¬ ((p1 + jj) < 0 ∨ cl102.slots.size ≤ ((p1 + jj)).toNatClampNeg) := inb_of Sz102 hi1
  have hat103 : cl102.slots[((p1 + jj)).toNatClampNeg]? = some (.double (own_i2 uu)) := Has.at Hh102 hin103 hg1
  obtain ⟨T104, X104, e104, st104⟩ := getF X101 hx hZ hown (host := "") (Or.inl (own_w hw 367 rfl)) Via.refl e101 F_values_r0 (g := (mkF m 36 #[oR r0, oI p1, oI p2, oI a, oI b, oI jj] [(.ref r0), (.double (own_i2 uu))])) rfl rfl (hb hby d58_36)
  have hin105 : ¬ ((p2 + jj) < 0 ∨ cl102.slots.size ≤ ((p2 + jj)).toNatClampNeg) := inb_of Sz102 hi2
  have hat105 : cl102.slots[((p2 + jj)).toNatClampNeg]? = some (.double (own_i2 vv)) := Has.at Hh102 hin105 hg2
  have pre106 : ∀ t, Steps p.tables e below (T104.setTop (mkF m 45 #[oR r0, oI p1, oI p2, oI a, oI b, oI jj] [(.int (cmpValue (FP.dcmp (own_i2 uu) (own_i2 vv)) .l))])) t → Steps p.tables e below (s₁.setTop (mkF m 26 #[oR r0, oI p1, oI p2, oI a, oI b, oI jj] [])) t := by
    intro t kt
    show own_S p e below s₁ m 26 #[oR r0, oI p1, oI p2, oI a, oI b, oI jj] [] _
    refine XS.aloadN X0.here hx rfl (hb hby d58_26) rfl rfl ?_
    show own_S p e below s₁ m 27 _ [(.ref r0)] _
    refine st101 _ ?_
    show own_S p e below T101 m 30 _ [(.ref va)] _
    refine XS.iloadN X101.here hx rfl (hb hby d58_30) rfl ?_
    refine XS.iload X101.here hx rfl (hb hby d58_31) rfl ?_
    show own_S p e below T101 m 33 _ [(.int jj), (.int p1), (.ref va)] _
    refine XS.iadd X101.here hx rfl (hb hby d58_33) rfl ?_
    show own_S p e below T101 m 34 _ [(.int (p1 + jj)), (.ref va)] _
    refine X101.daload hx (j := (p1 + jj)) (v := (.double (own_i2 uu))) (by rw [e101]; exact Ar102.1) (State.isArrayOf_alike hZ.alike Ar102.2.1) Ar102.2.2 hin103 hat103 (g := (mkF m 34 #[oR r0, oI p1, oI p2, oI a, oI b, oI jj] [(.int (p1 + jj)), (.ref va)])) rfl rfl (hb hby d58_34) _ ?_
    show own_S p e below T101 m 35 _ [(.double (own_i2 uu))] _
    refine XS.aloadN X101.here hx rfl (hb hby d58_35) rfl rfl ?_
    show own_S p e below T101 m 36 #[oR r0, oI p1, oI p2, oI a, oI b, oI jj] [(.ref r0), (.double (own_i2 uu))] _
    refine st104 _ ?_
    show own_S p e below T104 m 39 _ [(.ref va), (.double (own_i2 uu))] _
    refine XS.iloadN X104.here hx rfl (hb hby d58_39) rfl ?_
    refine XS.iload X104.here hx rfl (hb hby d58_40) rfl ?_
    show own_S p e below T104 m 42 _ [(.int jj), (.int p2), (.ref va), (.double (own_i2 uu))] _
    refine XS.iadd X104.here hx rfl (hb hby d58_42) rfl ?_
    show own_S p e below T104 m 43 _ [(.int (p2 + jj)), (.ref va), (.double (own_i2 uu))] _
    refine X104.daload hx (j := (p2 + jj)) (v := (.double (own_i2 vv))) (by rw [e104]; exact Ar102.1) (State.isArrayOf_alike hZ.alike Ar102.2.1) Ar102.2.2 hin105 hat105 (g := (mkF m 43 #[oR r0, oI p1, oI p2, oI a, oI b, oI jj] [(.int (p2 + jj)), (.ref va), (.double (own_i2 uu))])) rfl rfl (hb hby d58_43) _ ?_
    show own_S p e below T104 m 44 _ [(.double (own_i2 vv)), (.double (own_i2 uu))] _
    refine XS.dcmpS X104.here hx rfl (v := (cmpValue (FP.dcmp (own_i2 uu) (own_i2 vv)) .l)) (hb hby d58_44) rfl rfl ?_
    exact kt
  by_cases g : (0 : Int32) < (cmpValue (FP.dcmp (own_i2 uu) (own_i2 vv)) .l)
  · skip
    refine ⟨_, _, X104, N0, (by rw [e104]; exact (Keep.refl h0 [])), fun t kt => ?_⟩
    refine pre106 _ ?_
    show own_S p e below T104 m 45 #[oR r0, oI p1, oI p2, oI a, oI b, oI jj] [(.int (cmpValue (FP.dcmp (own_i2 uu) (own_i2 vv)) .l))] _
    refine XS.ifNo X104.here hx rfl (hb hby d58_45) rfl ((if0 _ _).trans (tlt (g : (0 : Int32) < (cmpValue (FP.dcmp (own_i2 uu) (own_i2 vv)) .l))).2.2.2) ?_
    refine XS.iconst X104.here hx rfl (hb hby d58_48) ?_
    refine XS.istoreN X104.here hx rfl (hb hby d58_49) rfl (l' := #[oR r0, oI p1, oI p2, oI 1, oI b, oI jj]) rfl ?_
    refine XS.goto X104.here hx rfl (pc0 := 50) (pc' := 78) rfl (hb hby d58_50) (by decide) (by decide) ?_
    rw [own_gT ha g, own_lT hb_ g] at kt
    exact kt
  · skip
    obtain ⟨T107, X107, e107, st107⟩ := getF X104 hx hZ hown (host := "") (Or.inl (own_w hw 367 rfl)) Via.refl e104 F_values_r0 (g := (mkF m 54 #[oR r0, oI p1, oI p2, oI a, oI b, oI jj] [(.ref r0)])) rfl rfl (hb hby d58_54)
    have hin108 : ¬ ((p1 + jj) < 0 ∨ cl102.slots.size ≤ ((p1 + jj)).toNatClampNeg) := inb_of Sz102 hi1
    have hat108 : cl102.slots[((p1 + jj)).toNatClampNeg]? = some (.double (own_i2 uu)) := Has.at Hh102 hin108 hg1
    obtain ⟨T109, X109, e109, st109⟩ := getF X107 hx hZ hown (host := "") (Or.inl (own_w hw 367 rfl)) Via.refl e107 F_values_r0 (g := (mkF m 63 #[oR r0, oI p1, oI p2, oI a, oI b, oI jj] [(.ref r0), (.double (own_i2 uu))])) rfl rfl (hb hby d58_63)
    have hin110 : ¬ ((p2 + jj) < 0 ∨ cl102.slots.size ≤ ((p2 + jj)).toNatClampNeg) := inb_of Sz102 hi2
    have hat110 : cl102.slots[((p2 + jj)).toNatClampNeg]? = some (.double (own_i2 vv)) := Has.at Hh102 hin110 hg2
    have pre111 : ∀ t, Steps p.tables e below (T109.setTop (mkF m 72 #[oR r0, oI p1, oI p2, oI a, oI b, oI jj] [(.int (cmpValue (FP.dcmp (own_i2 uu) (own_i2 vv)) .g))])) t → Steps p.tables e below (s₁.setTop (mkF m 26 #[oR r0, oI p1, oI p2, oI a, oI b, oI jj] [])) t := by
      intro t kt
      refine pre106 _ ?_
      show own_S p e below T104 m 45 #[oR r0, oI p1, oI p2, oI a, oI b, oI jj] [(.int (cmpValue (FP.dcmp (own_i2 uu) (own_i2 vv)) .l))] _
      refine XS.ifYes X104.here hx rfl (pc0 := 45) (pc' := 53) rfl (hb hby d58_45) rfl ((if0 _ _).trans (flt (g : ¬ ((0 : Int32) < (cmpValue (FP.dcmp (own_i2 uu) (own_i2 vv)) .l)))).2.2.2) (by decide) (by decide) ?_
      refine XS.aloadN X104.here hx rfl (hb hby d58_53) rfl rfl ?_
      show own_S p e below T104 m 54 _ [(.ref r0)] _
      refine st107 _ ?_
      show own_S p e below T107 m 57 _ [(.ref va)] _
      refine XS.iloadN X107.here hx rfl (hb hby d58_57) rfl ?_
      refine XS.iload X107.here hx rfl (hb hby d58_58) rfl ?_
      show own_S p e below T107 m 60 _ [(.int jj), (.int p1), (.ref va)] _
      refine XS.iadd X107.here hx rfl (hb hby d58_60) rfl ?_
      show own_S p e below T107 m 61 _ [(.int (p1 + jj)), (.ref va)] _
      refine X107.daload hx (j := (p1 + jj)) (v := (.double (own_i2 uu))) (by rw [e107]; exact Ar102.1) (State.isArrayOf_alike hZ.alike Ar102.2.1) Ar102.2.2 hin108 hat108 (g := (mkF m 61 #[oR r0, oI p1, oI p2, oI a, oI b, oI jj] [(.int (p1 + jj)), (.ref va)])) rfl rfl (hb hby d58_61) _ ?_
      show own_S p e below T107 m 62 #[oR r0, oI p1, oI p2, oI a, oI b, oI jj] [(.double (own_i2 uu))] _
      refine XS.aloadN X107.here hx rfl (hb hby d58_62) rfl rfl ?_
      show own_S p e below T107 m 63 _ [(.ref r0), (.double (own_i2 uu))] _
      refine st109 _ ?_
      show own_S p e below T109 m 66 _ [(.ref va), (.double (own_i2 uu))] _
      refine XS.iloadN X109.here hx rfl (hb hby d58_66) rfl ?_
      refine XS.iload X109.here hx rfl (hb hby d58_67) rfl ?_
      show own_S p e below T109 m 69 _ [(.int jj), (.int p2), (.ref va), (.double (own_i2 uu))] _
      refine XS.iadd X109.here hx rfl (hb hby d58_69) rfl ?_
      show own_S p e below T109 m 70 _ [(.int (p2 + jj)), (.ref va), (.double (own_i2 uu))] _
      refine X109.daload hx (j := (p2 + jj)) (v := (.double (own_i2 vv))) (by rw [e109]; exact Ar102.1) (State.isArrayOf_alike hZ.alike Ar102.2.1) Ar102.2.2 hin110 hat110 (g := (mkF m 70 #[oR r0, oI p1, oI p2, oI a, oI b, oI jj] [(.int (p2 + jj)), (.ref va), (.double (own_i2 uu))])) rfl rfl (hb hby d58_70) _ ?_
      show own_S p e below T109 m 71 _ [(.double (own_i2 vv)), (.double (own_i2 uu))] _
      refine XS.dcmpS X109.here hx rfl (v := (cmpValue (FP.dcmp (own_i2 uu) (own_i2 vv)) .g)) (hb hby d58_71) rfl rfl ?_
      exact kt
    by_cases l_ : (cmpValue (FP.dcmp (own_i2 uu) (own_i2 vv)) .g) < (0 : Int32)
    · skip
      refine ⟨_, _, X109, N0, (by rw [e109]; exact (Keep.refl h0 [])), fun t kt => ?_⟩
      refine pre111 _ ?_
      show own_S p e below T109 m 72 #[oR r0, oI p1, oI p2, oI a, oI b, oI jj] [(.int (cmpValue (FP.dcmp (own_i2 uu) (own_i2 vv)) .g))] _
      refine XS.ifNo X109.here hx rfl (hb hby d58_72) rfl ((if0 _ _).trans (tlt (l_ : (cmpValue (FP.dcmp (own_i2 uu) (own_i2 vv)) .g) < (0 : Int32))).2.1) ?_
      refine XS.iconst X109.here hx rfl (hb hby d58_75) ?_
      refine XS.istore X109.here hx rfl (hb hby d58_76) rfl (l' := #[oR r0, oI p1, oI p2, oI a, oI 1, oI jj]) rfl ?_
      rw [own_gF ha g, own_lFT hb_ g l_] at kt
      exact kt
    · skip
      refine ⟨_, _, X109, N0, (by rw [e109]; exact (Keep.refl h0 [])), fun t kt => ?_⟩
      refine pre111 _ ?_
      show own_S p e below T109 m 72 #[oR r0, oI p1, oI p2, oI a, oI b, oI jj] [(.int (cmpValue (FP.dcmp (own_i2 uu) (own_i2 vv)) .g))] _
      refine XS.ifYes X109.here hx rfl (pc0 := 72) (pc' := 78) rfl (hb hby d58_72) rfl ((if0 _ _).trans (flt (l_ : ¬ ((cmpValue (FP.dcmp (own_i2 uu) (own_i2 vv)) .g) < (0 : Int32)))).2.1) (by decide) (by decide) ?_
      rw [own_gF ha g, own_lFF hb_ g l_] at kt
      exact kt
theorem d58_0 : decode k58 0 = .ok (.iconst 0, 1) := by decide +kernel
theorem d58_1 : decode k58 1 = .ok (.istore_n 3, 1) := by decide +kernel
theorem d58_2 : decode k58 2 = .ok (.iconst 0, 1) := by decide +kernel
theorem d58_3 : decode k58 3 = .ok (.istore 4, 2) := by decide +kernel
theorem d58_5 : decode k58 5 = .ok (.iconst 0, 1) := by decide +kernel
theorem d58_6 : decode k58 6 = .ok (.istore 5, 2) := by decide +kernel
theorem d58_8 : decode k58 8 = .ok (.iload 5, 2) := by decide +kernel
theorem d58_10 : decode k58 10 = .ok (.aload_n 0, 1) := by decide +kernel
theorem d58_11 : decode k58 11 = .ok (.getfield 36, 3) := by decide +kernel
theorem d58_14 : decode k58 14 = .ok (.if_icmp .ge 70, 3) := by decide +kernel
theorem d58_17 : decode k58 17 = .ok (.iload_n 3, 1) := by decide +kernel
theorem d58_18 : decode k58 18 = .ok (.ifCond .eq 8, 3) := by decide +kernel
theorem d58_21 : decode k58 21 = .ok (.iload 4, 2) := by decide +kernel
theorem d58_23 : decode k58 23 = .ok (.ifCond .ne 61, 3) := by decide +kernel
theorem d58_78 : decode k58 78 = .ok (.iinc 5 1, 3) := by decide +kernel
theorem d58_81 : decode k58 81 = .ok (.goto (-73), 3) := by decide +kernel
theorem d58_84 : decode k58 84 = .ok (.iload_n 3, 1) := by decide +kernel
theorem d58_85 : decode k58 85 = .ok (.iload 4, 2) := by decide +kernel
theorem d58_87 : decode k58 87 = .ok (.if_icmp .ne 9, 3) := by decide +kernel
theorem d58_90 : decode k58 90 = .ok (.iconst 0, 1) := by decide +kernel
theorem d58_91 : decode k58 91 = .ok (.istore 5, 2) := by decide +kernel
theorem d58_93 : decode k58 93 = .ok (.goto 16, 3) := by decide +kernel
theorem d58_96 : decode k58 96 = .ok (.iload_n 3, 1) := by decide +kernel
theorem d58_97 : decode k58 97 = .ok (.ifCond .eq 9, 3) := by decide +kernel
theorem d58_100 : decode k58 100 = .ok (.iconst 1, 1) := by decide +kernel
theorem d58_101 : decode k58 101 = .ok (.istore 5, 2) := by decide +kernel
theorem d58_103 : decode k58 103 = .ok (.goto 6, 3) := by decide +kernel
theorem d58_106 : decode k58 106 = .ok (.iconst (-1), 1) := by decide +kernel
theorem d58_107 : decode k58 107 = .ok (.istore 5, 2) := by decide +kernel
theorem d58_109 : decode k58 109 = .ok (.iload 5, 2) := by decide +kernel
theorem d58_111 : decode k58 111 = .ok (.ireturn, 1) := by decide +kernel
theorem efm58 (m : MethodId) (r0 : Addr) (p1 : Int32) (p2 : Int32) : entryFrame m #[(.ref r0), (.int p1), (.int p2)] 6 = mkF m 0 #[oR r0, oI p1, oI p2, oU, oU, oU] [] := by first | (simp [entryFrame, mkF, argsToLocals, Value.category]; done) | rfl
def Qm58 (Z : State) (r0 : Addr) (p1 : Int32) (p2 : Int32) (va : Addr) (kva : ClassId) (vs : List Value) (u0 : Int32) (u1 : Int32) (u2 : Int32) (v0 : Int32) (v1 : Int32) (v2 : Int32) (h0 : Heap) (n0 : Nat) (v : Option Value) (h : Heap) (L : List Loc) : Prop := v = some (.int (own_rel u0 u1 u2 v0 v1 v2)) ∧ Fr n0 L ∧ (Keep h0 h [])
set_option maxRecDepth 65536 in
set_option maxHeartbeats 40000000 in
theorem rmm58 (l : Launch) (Z : State) (a0 : Array Value) (hw : own_HW Z a0) (ws : List Jvm.Cond) (r0 : Addr) (p1 : Int32) (p2 : Int32) (va : Addr) (kva : ClassId) (vs : List Value) (u0 : Int32) (u1 : Int32) (u2 : Int32) (v0 : Int32) (v1 : Int32) (v2 : Int32) (h0 : Heap) (n0 : Nat) (Z0 : n0 ≤ h0.size) (E_r0 : Exa Z h0 r0 kIV) (F_dimension_r0 : Fld Z h0 r0 kIV "dimension" "I" (.int 3)) (F_values_r0 : Fld Z h0 r0 kIV "values" "[D" (.ref va)) (V_va : Arv Z h0 va kva .double (6 : Int32) vs (.double 0)) (E_va : Exa Z h0 va "[D") (hy0 : ¬ (p1 + (0 : Int32)) < (0 : Int32) ∧ (p1 + (0 : Int32)) < (6 : Int32)) (hz0 : ¬ (p2 + (0 : Int32)) < (0 : Int32) ∧ (p2 + (0 : Int32)) < (6 : Int32)) (gy0 : vs.getD (p1 + (0 : Int32)).toNatClampNeg (.double 0) = .double (own_i2 u0)) (gz0 : vs.getD (p2 + (0 : Int32)).toNatClampNeg (.double 0) = .double (own_i2 v0)) (hy1 : ¬ (p1 + (1 : Int32)) < (0 : Int32) ∧ (p1 + (1 : Int32)) < (6 : Int32)) (hz1 : ¬ (p2 + (1 : Int32)) < (0 : Int32) ∧ (p2 + (1 : Int32)) < (6 : Int32)) (gy1 : vs.getD (p1 + (1 : Int32)).toNatClampNeg (.double 0) = .double (own_i2 u1)) (gz1 : vs.getD (p2 + (1 : Int32)).toNatClampNeg (.double 0) = .double (own_i2 v1)) (hy2 : ¬ (p1 + (2 : Int32)) < (0 : Int32) ∧ (p1 + (2 : Int32)) < (6 : Int32)) (hz2 : ¬ (p2 + (2 : Int32)) < (0 : Int32) ∧ (p2 + (2 : Int32)) < (6 : Int32)) (gy2 : vs.getD (p1 + (2 : Int32)).toNatClampNeg (.double 0) = .double (own_i2 u2)) (gz2 : vs.getD (p2 + (2 : Int32)).toNatClampNeg (.double 0) = .double (own_i2 v2)) :
    MetFree l (⟨kIV, "relation", "(II)I"⟩ : MethodName) (head1 (Jvm.Cond.code (⟨kIV, "relation", "(II)I"⟩ : MethodName) prog_26_method_15_code 6 (some .int) :: ws) ({ frames := 0, cells := 0, slots := 0, locals := 0 } : Room)) (fun a U => a = #[(.ref r0), (.int p1), (.int p2)] ∧ Z.Warmed39 U.vm ∧ U.heap = h0) (fun _ _ _ _ _ => True) (fun _ U o U' => ∃ v L, o = .returned v ∧ Qm58 Z r0 p1 p2 va kva vs u0 u1 u2 v0 v1 v2 h0 n0 v U'.heap L ∧ FrameEnd U o U' L ({ frames := 0, cells := 0, slots := 0, locals := 0 } : Room).cells ({ frames := 0, cells := 0, slots := 0, locals := 0 } : Room).slots) := by
  refine MetFree.of_bodySF (plainFor_of_name pn18) hisR ?_
  intro p e s m args below meth c s₁ Bd hml0 hP hK
  obtain ⟨rfl, hZ, hh⟩ := hP
  have hx := Bd.exec
  have hby := Bd.bytes
  have hml : c.maxLocals = 6 := hml0
  have hown : s.vm.findClass kIV = some m.cls := findClass_of_methodNamed Bd.named
  have hnm := (name_of_methodNamed Bd.named Bd.method).1
  have X0 : Stand p l e ({ frames := 0, cells := 0, slots := 0, locals := 0 } : Room) s m #[(.ref r0), (.int p1), (.int p2)] below meth c s₁ [] 0 0 := Stand.of_body Bd
  have e0 : s₁.heap = h0 := by rw [← hh, Bd.state]; rfl
  have N0 := Fr.nil n0
  have pre0 : ∀ t, Steps p.tables e below (s₁.setTop (mkF m 0 #[oR r0, oI p1, oI p2, oU, oU, oU] [])) t → Steps p.tables e below (s₁.setTop (entryFrame m #[(.ref r0), (.int p1), (.int p2)] 6)) t := fun t k => castTop (efm58 m r0 p1 p2) k
  obtain ⟨a1, ha1⟩ : ∃ zz, zz = own_ga u0 v0 0 := ⟨_, rfl⟩
  obtain ⟨b1, hb1⟩ : ∃ zz, zz = own_lb u0 v0 0 := ⟨_, rfl⟩
  obtain ⟨a2, ha2⟩ : ∃ zz, zz = own_ga u1 v1 a1 := ⟨_, rfl⟩
  obtain ⟨b2, hb2⟩ : ∃ zz, zz = own_lb u1 v1 b1 := ⟨_, rfl⟩
  obtain ⟨a3, ha3⟩ : ∃ zz, zz = own_ga u2 v2 a2 := ⟨_, rfl⟩
  obtain ⟨b3, hb3⟩ : ∃ zz, zz = own_lb u2 v2 b2 := ⟨_, rfl⟩
  obtain ⟨rr, hrr⟩ : ∃ zz, zz = own_rl a3 b3 := ⟨_, rfl⟩
  obtain ⟨T101, X101, e101, st101⟩ := getF X0 hx hZ hown (host := "") (Or.inl (own_w hw 359 rfl)) Via.refl e0 F_dimension_r0 (g := (mkF m 11 #[oR r0, oI p1, oI p2, oI 0, oI 0, oI 0] [(.ref r0), (.int 0)])) rfl rfl (hb hby d58_11)
  obtain ⟨T102, L102, X102, N102, P102_0, st102⟩ := own_IT l Z a0 hw r0 va kva p1 p2 (0 : Int32) (0 : Int32) (0 : Int32) a1 b1 u0 v0 vs h0 n0 Z0 E_r0 F_values_r0 V_va hy0 hz0 gy0 gz0 ha1 hb1 hx hby hml hZ hown hnm X101 e101 N0
  have ZZ103 : n0 ≤ T102.heap.size := Nat.le_trans Z0 P102_0.1
  have KK104 : Keep h0 T102.heap [] := Keep.trans (Keep.refl h0 []) P102_0 all0
  have Fc105 := (F_dimension_r0.keep P102_0 nin0)
  obtain ⟨T106, X106, e106, st106⟩ := getF X102 hx hZ hown (host := "") (Or.inl (own_w hw 359 rfl)) Via.refl rfl Fc105 (g := (mkF m 11 #[oR r0, oI p1, oI p2, oI a1, oI b1, oI 1] [(.ref r0), (.int 1)])) rfl rfl (hb hby d58_11)
  have pre107 : ∀ t, Steps p.tables e below (T106.setTop (mkF m 18 #[oR r0, oI p1, oI p2, oI a1, oI b1, oI 1] [(.int a1)])) t → Steps p.tables e below (s₁.setTop (mkF m 0 #[oR r0, oI p1, oI p2, oU, oU, oU] [])) t := by
    intro t kt
    show own_S p e below s₁ m 0 #[oR r0, oI p1, oI p2, oU, oU, oU] [] _
    refine XS.iconst X0.here hx rfl (hb hby d58_0) ?_
    refine XS.istoreN X0.here hx rfl (hb hby d58_1) rfl (l' := #[oR r0, oI p1, oI p2, oI 0, oU, oU]) rfl ?_
    refine XS.iconst X0.here hx rfl (hb hby d58_2) ?_
    refine XS.istore X0.here hx rfl (hb hby d58_3) rfl (l' := #[oR r0, oI p1, oI p2, oI 0, oI 0, oU]) rfl ?_
    show own_S p e below s₁ m 5 #[oR r0, oI p1, oI p2, oI 0, oI 0, oU] [] _
    refine XS.iconst X0.here hx rfl (hb hby d58_5) ?_
    refine XS.istore X0.here hx rfl (hb hby d58_6) rfl (l' := #[oR r0, oI p1, oI p2, oI 0, oI 0, oI 0]) rfl ?_
    refine XS.iload X0.here hx rfl (hb hby d58_8) rfl ?_
    refine XS.aloadN X0.here hx rfl (hb hby d58_10) rfl rfl ?_
    show own_S p e below s₁ m 11 _ [(.ref r0), (.int 0)] _
    refine st101 _ ?_
    show own_S p e below T101 m 14 _ [(.int 3), (.int 0)] _
    refine XS.icmpNo X101.here hx rfl (hb hby d58_14) rfl (tlt (by decide : (0 : Int32) < (3 : Int32))).2.1 ?_
    refine XS.iloadN X101.here hx rfl (hb hby d58_17) rfl ?_
    refine XS.ifYes X101.here hx rfl (pc0 := 18) (pc' := 26) rfl (hb hby d58_18) rfl ((if0 _ _).trans (teq (by decide : (0 : Int32) = (0 : Int32))).1) (by decide) (by decide) ?_
    show own_S p e below T101 m 26 _ [] _
    refine st102 _ ?_
    show own_S p e below T102 m 78 #[oR r0, oI p1, oI p2, oI a1, oI b1, oI 0] [] _
    refine XS.iinc X102.here hx rfl (hb hby d58_78) rfl (l' := #[oR r0, oI p1, oI p2, oI a1, oI b1, oI 1]) rfl ?_
    refine XS.goto X102.here hx rfl (pc0 := 81) (pc' := 8) rfl (hb hby d58_81) (by decide) (by decide) ?_
    refine XS.iload X102.here hx rfl (hb hby d58_8) rfl ?_
    refine XS.aloadN X102.here hx rfl (hb hby d58_10) rfl rfl ?_
    show own_S p e below T102 m 11 _ [(.ref r0), (.int 1)] _
    refine st106 _ ?_
    show own_S p e below T106 m 14 _ [(.int 3), (.int 1)] _
    refine XS.icmpNo X106.here hx rfl (hb hby d58_14) rfl (tlt (by decide : (1 : Int32) < (3 : Int32))).2.1 ?_
    refine XS.iloadN X106.here hx rfl (hb hby d58_17) rfl ?_
    exact kt
  have pre108 : ∀ t, Steps p.tables e below (T106.setTop (mkF m 26 #[oR r0, oI p1, oI p2, oI a1, oI b1, oI 1] [])) t → Steps p.tables e below (s₁.setTop (mkF m 0 #[oR r0, oI p1, oI p2, oU, oU, oU] [])) t := by
    intro t kt
    refine pre107 _ ?_
    show own_S p e below T106 m 18 #[oR r0, oI p1, oI p2, oI a1, oI b1, oI 1] [(.int a1)] _
    by_cases e1 : a1 = (0 : Int32)
    · skip
      refine XS.ifYes X106.here hx rfl (pc0 := 18) (pc' := 26) rfl (hb hby d58_18) rfl ((if0 _ _).trans (teq (e1 : a1 = (0 : Int32))).1) (by decide) (by decide) ?_
      exact kt
    · skip
      refine XS.ifNo X106.here hx rfl (hb hby d58_18) rfl ((if0 _ _).trans (feq (e1 : ¬ (a1 = (0 : Int32)))).1) ?_
      refine XS.iload X106.here hx rfl (hb hby d58_21) rfl ?_
      refine XS.ifNo X106.here hx rfl (hb hby d58_23) rfl ((if0 _ _).trans (teq ((own_ab ha1 hb1 e1) : b1 = (0 : Int32))).2) ?_
      exact kt
  have Fc109 := (F_values_r0.keep P102_0 nin0)
  obtain ⟨T110, L110, X110, N110, P110_0, st110⟩ := own_IT l Z a0 hw r0 va kva p1 p2 (1 : Int32) a1 b1 a2 b2 u1 v1 vs T102.heap n0 ZZ103 (E_r0.keep P102_0) Fc109 (V_va.keep P102_0 nin0) hy1 hz1 gy1 gz1 ha2 hb2 hx hby hml hZ hown hnm X106 e106 N102
  have ZZ111 : n0 ≤ T110.heap.size := Nat.le_trans ZZ103 P110_0.1
  have KK112 : Keep h0 T110.heap [] := Keep.trans KK104 P110_0 all0
  obtain ⟨T113, X113, e113, st113⟩ := getF X110 hx hZ hown (host := "") (Or.inl (own_w hw 359 rfl)) Via.refl rfl (Fc105.keep P110_0 nin0) (g := (mkF m 11 #[oR r0, oI p1, oI p2, oI a2, oI b2, oI 2] [(.ref r0), (.int 2)])) rfl rfl (hb hby d58_11)
  have pre114 : ∀ t, Steps p.tables e below (T113.setTop (mkF m 18 #[oR r0, oI p1, oI p2, oI a2, oI b2, oI 2] [(.int a2)])) t → Steps p.tables e below (s₁.setTop (mkF m 0 #[oR r0, oI p1, oI p2, oU, oU, oU] [])) t := by
    intro t kt
    refine pre108 _ ?_
    show own_S p e below T106 m 26 #[oR r0, oI p1, oI p2, oI a1, oI b1, oI 1] [] _
    refine st110 _ ?_
    show own_S p e below T110 m 78 #[oR r0, oI p1, oI p2, oI a2, oI b2, oI 1] [] _
    refine XS.iinc X110.here hx rfl (hb hby d58_78) rfl (l' := #[oR r0, oI p1, oI p2, oI a2, oI b2, oI 2]) rfl ?_
    refine XS.goto X110.here hx rfl (pc0 := 81) (pc' := 8) rfl (hb hby d58_81) (by decide) (by decide) ?_
    refine XS.iload X110.here hx rfl (hb hby d58_8) rfl ?_
    refine XS.aloadN X110.here hx rfl (hb hby d58_10) rfl rfl ?_
    show own_S p e below T110 m 11 _ [(.ref r0), (.int 2)] _
    refine st113 _ ?_
    show own_S p e below T113 m 14 _ [(.int 3), (.int 2)] _
    refine XS.icmpNo X113.here hx rfl (hb hby d58_14) rfl (tlt (by decide : (2 : Int32) < (3 : Int32))).2.1 ?_
    refine XS.iloadN X113.here hx rfl (hb hby d58_17) rfl ?_
    exact kt
  by_cases e2 : a2 = (0 : Int32)
  · skip
    have Fc115 := (E_r0.keep KK112)
    have Fc116 := (V_va.keep KK112 nin0)
    obtain ⟨T117, L117, X117, N117, P117_0, st117⟩ := own_IT l Z a0 hw r0 va kva p1 p2 (2 : Int32) a2 b2 a3 b3 u2 v2 vs T110.heap n0 ZZ111 Fc115 (Fc109.keep P110_0 nin0) Fc116 hy2 hz2 gy2 gz2 ha3 hb3 hx hby hml hZ hown hnm X113 e113 N110
    have ZZ118 : n0 ≤ T117.heap.size := Nat.le_trans ZZ111 P117_0.1
    have KK119 : Keep h0 T117.heap [] := Keep.trans KK112 P117_0 all0
    have Fc120 := ((Fc105.keep P110_0 nin0).keep P117_0 nin0)
    obtain ⟨T121, X121, e121, st121⟩ := getF X117 hx hZ hown (host := "") (Or.inl (own_w hw 359 rfl)) Via.refl rfl Fc120 (g := (mkF m 11 #[oR r0, oI p1, oI p2, oI a3, oI b3, oI 3] [(.ref r0), (.int 3)])) rfl rfl (hb hby d58_11)
    have pre122 : ∀ t, Steps p.tables e below (T121.setTop (mkF m 87 #[oR r0, oI p1, oI p2, oI a3, oI b3, oI 3] [(.int b3), (.int a3)])) t → Steps p.tables e below (s₁.setTop (mkF m 0 #[oR r0, oI p1, oI p2, oU, oU, oU] [])) t := by
      intro t kt
      refine pre114 _ ?_
      show own_S p e below T113 m 18 #[oR r0, oI p1, oI p2, oI a2, oI b2, oI 2] [(.int a2)] _
      refine XS.ifYes X113.here hx rfl (pc0 := 18) (pc' := 26) rfl (hb hby d58_18) rfl ((if0 _ _).trans (teq (e2 : a2 = (0 : Int32))).1) (by decide) (by decide) ?_
      show own_S p e below T113 m 26 _ [] _
      refine st117 _ ?_
      show own_S p e below T117 m 78 #[oR r0, oI p1, oI p2, oI a3, oI b3, oI 2] [] _
      refine XS.iinc X117.here hx rfl (hb hby d58_78) rfl (l' := #[oR r0, oI p1, oI p2, oI a3, oI b3, oI 3]) rfl ?_
      refine XS.goto X117.here hx rfl (pc0 := 81) (pc' := 8) rfl (hb hby d58_81) (by decide) (by decide) ?_
      refine XS.iload X117.here hx rfl (hb hby d58_8) rfl ?_
      refine XS.aloadN X117.here hx rfl (hb hby d58_10) rfl rfl ?_
      show own_S p e below T117 m 11 _ [(.ref r0), (.int 3)] _
      refine st121 _ ?_
      show own_S p e below T121 m 14 _ [(.int 3), (.int 3)] _
      refine XS.icmpYes X121.here hx rfl (pc0 := 14) (pc' := 84) rfl (hb hby d58_14) rfl (flt (by decide : ¬ ((3 : Int32) < (3 : Int32)))).2.1 (by decide) (by decide) ?_
      refine XS.iloadN X121.here hx rfl (hb hby d58_84) rfl ?_
      refine XS.iload X121.here hx rfl (hb hby d58_85) rfl ?_
      exact kt
    have pre123 : ∀ t, Steps p.tables e below (T121.setTop (mkF m 109 #[oR r0, oI p1, oI p2, oI a3, oI b3, oI rr] [])) t → Steps p.tables e below (s₁.setTop (mkF m 0 #[oR r0, oI p1, oI p2, oU, oU, oU] [])) t := by
      intro t kt
      refine pre122 _ ?_
      show own_S p e below T121 m 87 #[oR r0, oI p1, oI p2, oI a3, oI b3, oI 3] [(.int b3), (.int a3)] _
      by_cases q1 : a3 = b3
      · skip
        refine XS.icmpNo X121.here hx rfl (hb hby d58_87) rfl (teq (q1 : a3 = b3)).2 ?_
        refine XS.iconst X121.here hx rfl (hb hby d58_90) ?_
        refine XS.istore X121.here hx rfl (hb hby d58_91) rfl (l' := #[oR r0, oI p1, oI p2, oI a3, oI b3, oI 0]) rfl ?_
        refine XS.goto X121.here hx rfl (pc0 := 93) (pc' := 109) rfl (hb hby d58_93) (by decide) (by decide) ?_
        rw [((own_r0 hrr q1) : rr = (0 : Int32))] at kt
        exact kt
      · skip
        refine XS.icmpYes X121.here hx rfl (pc0 := 87) (pc' := 96) rfl (hb hby d58_87) rfl (feq (q1 : ¬ (a3 = b3))).2 (by decide) (by decide) ?_
        show own_S p e below T121 m 96 #[oR r0, oI p1, oI p2, oI a3, oI b3, oI 3] [] _
        refine XS.iloadN X121.here hx rfl (hb hby d58_96) rfl ?_
        show own_S p e below T121 m 97 _ [(.int a3)] _
        by_cases q2 : a3 = (0 : Int32)
        · skip
          refine XS.ifYes X121.here hx rfl (pc0 := 97) (pc' := 106) rfl (hb hby d58_97) rfl ((if0 _ _).trans (teq (q2 : a3 = (0 : Int32))).1) (by decide) (by decide) ?_
          refine XS.iconst X121.here hx rfl (hb hby d58_106) ?_
          refine XS.istore X121.here hx rfl (hb hby d58_107) rfl (l' := #[oR r0, oI p1, oI p2, oI a3, oI b3, oI (-1)]) rfl ?_
          rw [((own_r1 hrr q1 q2) : rr = (-1 : Int32))] at kt
          exact kt
        · skip
          refine XS.ifNo X121.here hx rfl (hb hby d58_97) rfl ((if0 _ _).trans (feq (q2 : ¬ (a3 = (0 : Int32)))).1) ?_
          refine XS.iconst X121.here hx rfl (hb hby d58_100) ?_
          show own_S p e below T121 m 101 _ [(.int 1)] _
          refine XS.istore X121.here hx rfl (hb hby d58_101) rfl (l' := #[oR r0, oI p1, oI p2, oI a3, oI b3, oI 1]) rfl ?_
          refine XS.goto X121.here hx rfl (pc0 := 103) (pc' := 109) rfl (hb hby d58_103) (by decide) (by decide) ?_
          rw [((own_r2 hrr q1 q2) : rr = (1 : Int32))] at kt
          exact kt
    obtain ⟨fs, hr, hrun, hended, hW, hsame⟩ := X121.leave (v := some (.int rr)) (fun h => by rw [Bd.returns] at h; cases h)
    refine ⟨_, _, pre0 _ (pre123 _ ?_), hrun, hended, _, _, rfl, ?_, ⟨_, rfl⟩, hW, hsame.mono (by decide) (by decide)⟩
    · show own_S p e below T121 m 109 #[oR r0, oI p1, oI p2, oI a3, oI b3, oI rr] [] _
      refine XS.iload X121.here hx rfl (hb hby d58_109) rfl ?_
      show own_S p e below T121 m 111 _ [(.int rr)] _
      exact retOut X121 hx Bd.returns rfl (Or.inl ⟨rfl, Or.inl rfl, _, rfl⟩) (hb hby d58_111) hr
    · show Qm58 Z r0 p1 p2 va kva vs u0 u1 u2 v0 v1 v2 h0 n0 _ T121.heap _
      rw [e121]
      exact ⟨(by rw [hrr, ha3, hb3, ha2, hb2, ha1, hb1]; rfl), N117, KK119⟩
  · skip
    have pre124 : ∀ t, Steps p.tables e below (T113.setTop (mkF m 23 #[oR r0, oI p1, oI p2, oI a2, oI b2, oI 2] [(.int b2)])) t → Steps p.tables e below (s₁.setTop (mkF m 0 #[oR r0, oI p1, oI p2, oU, oU, oU] [])) t := by
      intro t kt
      refine pre114 _ ?_
      show own_S p e below T113 m 18 #[oR r0, oI p1, oI p2, oI a2, oI b2, oI 2] [(.int a2)] _
      refine XS.ifNo X113.here hx rfl (hb hby d58_18) rfl ((if0 _ _).trans (feq (e2 : ¬ (a2 = (0 : Int32)))).1) ?_
      refine XS.iload X113.here hx rfl (hb hby d58_21) rfl ?_
      exact kt
    by_cases f2 : b2 = (0 : Int32)
    · skip
      have Fc125 := (E_r0.keep KK112)
      have Fc126 := (V_va.keep KK112 nin0)
      obtain ⟨T127, L127, X127, N127, P127_0, st127⟩ := own_IT l Z a0 hw r0 va kva p1 p2 (2 : Int32) a2 b2 a3 b3 u2 v2 vs T110.heap n0 ZZ111 Fc125 (Fc109.keep P110_0 nin0) Fc126 hy2 hz2 gy2 gz2 ha3 hb3 hx hby hml hZ hown hnm X113 e113 N110
      have ZZ128 : n0 ≤ T127.heap.size := Nat.le_trans ZZ111 P127_0.1
      have KK129 : Keep h0 T127.heap [] := Keep.trans KK112 P127_0 all0
      have Fc130 := ((Fc105.keep P110_0 nin0).keep P127_0 nin0)
      obtain ⟨T131, X131, e131, st131⟩ := getF X127 hx hZ hown (host := "") (Or.inl (own_w hw 359 rfl)) Via.refl rfl Fc130 (g := (mkF m 11 #[oR r0, oI p1, oI p2, oI a3, oI b3, oI 3] [(.ref r0), (.int 3)])) rfl rfl (hb hby d58_11)
      have pre132 : ∀ t, Steps p.tables e below (T131.setTop (mkF m 87 #[oR r0, oI p1, oI p2, oI a3, oI b3, oI 3] [(.int b3), (.int a3)])) t → Steps p.tables e below (s₁.setTop (mkF m 0 #[oR r0, oI p1, oI p2, oU, oU, oU] [])) t := by
        intro t kt
        refine pre124 _ ?_
        show own_S p e below T113 m 23 #[oR r0, oI p1, oI p2, oI a2, oI b2, oI 2] [(.int b2)] _
        refine XS.ifNo X113.here hx rfl (hb hby d58_23) rfl ((if0 _ _).trans (teq (f2 : b2 = (0 : Int32))).2) ?_
        show own_S p e below T113 m 26 _ [] _
        refine st127 _ ?_
        show own_S p e below T127 m 78 #[oR r0, oI p1, oI p2, oI a3, oI b3, oI 2] [] _
        refine XS.iinc X127.here hx rfl (hb hby d58_78) rfl (l' := #[oR r0, oI p1, oI p2, oI a3, oI b3, oI 3]) rfl ?_
        refine XS.goto X127.here hx rfl (pc0 := 81) (pc' := 8) rfl (hb hby d58_81) (by decide) (by decide) ?_
        refine XS.iload X127.here hx rfl (hb hby d58_8) rfl ?_
        refine XS.aloadN X127.here hx rfl (hb hby d58_10) rfl rfl ?_
        show own_S p e below T127 m 11 _ [(.ref r0), (.int 3)] _
        refine st131 _ ?_
        show own_S p e below T131 m 14 _ [(.int 3), (.int 3)] _
        refine XS.icmpYes X131.here hx rfl (pc0 := 14) (pc' := 84) rfl (hb hby d58_14) rfl (flt (by decide : ¬ ((3 : Int32) < (3 : Int32)))).2.1 (by decide) (by decide) ?_
        refine XS.iloadN X131.here hx rfl (hb hby d58_84) rfl ?_
        refine XS.iload X131.here hx rfl (hb hby d58_85) rfl ?_
        exact kt
      have pre133 : ∀ t, Steps p.tables e below (T131.setTop (mkF m 109 #[oR r0, oI p1, oI p2, oI a3, oI b3, oI rr] [])) t → Steps p.tables e below (s₁.setTop (mkF m 0 #[oR r0, oI p1, oI p2, oU, oU, oU] [])) t := by
        intro t kt
        refine pre132 _ ?_
        show own_S p e below T131 m 87 #[oR r0, oI p1, oI p2, oI a3, oI b3, oI 3] [(.int b3), (.int a3)] _
        by_cases q1 : a3 = b3
        · skip
          refine XS.icmpNo X131.here hx rfl (hb hby d58_87) rfl (teq (q1 : a3 = b3)).2 ?_
          refine XS.iconst X131.here hx rfl (hb hby d58_90) ?_
          refine XS.istore X131.here hx rfl (hb hby d58_91) rfl (l' := #[oR r0, oI p1, oI p2, oI a3, oI b3, oI 0]) rfl ?_
          refine XS.goto X131.here hx rfl (pc0 := 93) (pc' := 109) rfl (hb hby d58_93) (by decide) (by decide) ?_
          rw [((own_r0 hrr q1) : rr = (0 : Int32))] at kt
          exact kt
        · skip
          refine XS.icmpYes X131.here hx rfl (pc0 := 87) (pc' := 96) rfl (hb hby d58_87) rfl (feq (q1 : ¬ (a3 = b3))).2 (by decide) (by decide) ?_
          show own_S p e below T131 m 96 #[oR r0, oI p1, oI p2, oI a3, oI b3, oI 3] [] _
          refine XS.iloadN X131.here hx rfl (hb hby d58_96) rfl ?_
          show own_S p e below T131 m 97 _ [(.int a3)] _
          by_cases q2 : a3 = (0 : Int32)
          · skip
            refine XS.ifYes X131.here hx rfl (pc0 := 97) (pc' := 106) rfl (hb hby d58_97) rfl ((if0 _ _).trans (teq (q2 : a3 = (0 : Int32))).1) (by decide) (by decide) ?_
            refine XS.iconst X131.here hx rfl (hb hby d58_106) ?_
            refine XS.istore X131.here hx rfl (hb hby d58_107) rfl (l' := #[oR r0, oI p1, oI p2, oI a3, oI b3, oI (-1)]) rfl ?_
            rw [((own_r1 hrr q1 q2) : rr = (-1 : Int32))] at kt
            exact kt
          · skip
            refine XS.ifNo X131.here hx rfl (hb hby d58_97) rfl ((if0 _ _).trans (feq (q2 : ¬ (a3 = (0 : Int32)))).1) ?_
            refine XS.iconst X131.here hx rfl (hb hby d58_100) ?_
            show own_S p e below T131 m 101 _ [(.int 1)] _
            refine XS.istore X131.here hx rfl (hb hby d58_101) rfl (l' := #[oR r0, oI p1, oI p2, oI a3, oI b3, oI 1]) rfl ?_
            refine XS.goto X131.here hx rfl (pc0 := 103) (pc' := 109) rfl (hb hby d58_103) (by decide) (by decide) ?_
            rw [((own_r2 hrr q1 q2) : rr = (1 : Int32))] at kt
            exact kt
      obtain ⟨fs, hr, hrun, hended, hW, hsame⟩ := X131.leave (v := some (.int rr)) (fun h => by rw [Bd.returns] at h; cases h)
      refine ⟨_, _, pre0 _ (pre133 _ ?_), hrun, hended, _, _, rfl, ?_, ⟨_, rfl⟩, hW, hsame.mono (by decide) (by decide)⟩
      · show own_S p e below T131 m 109 #[oR r0, oI p1, oI p2, oI a3, oI b3, oI rr] [] _
        refine XS.iload X131.here hx rfl (hb hby d58_109) rfl ?_
        show own_S p e below T131 m 111 _ [(.int rr)] _
        exact retOut X131 hx Bd.returns rfl (Or.inl ⟨rfl, Or.inl rfl, _, rfl⟩) (hb hby d58_111) hr
      · show Qm58 Z r0 p1 p2 va kva vs u0 u1 u2 v0 v1 v2 h0 n0 _ T131.heap _
        rw [e131]
        exact ⟨(by rw [hrr, ha3, hb3, ha2, hb2, ha1, hb1]; rfl), N127, KK129⟩
    · skip
      obtain ⟨fs, hr, hrun, hended, hW, hsame⟩ := X113.leave (v := some (.int 0)) (fun h => by rw [Bd.returns] at h; cases h)
      refine ⟨_, _, pre0 _ (pre124 _ ?_), hrun, hended, _, _, rfl, ?_, ⟨_, rfl⟩, hW, hsame.mono (by decide) (by decide)⟩
      · show own_S p e below T113 m 23 #[oR r0, oI p1, oI p2, oI a2, oI b2, oI 2] [(.int b2)] _
        refine XS.ifYes X113.here hx rfl (pc0 := 23) (pc' := 84) rfl (hb hby d58_23) rfl ((if0 _ _).trans (feq (f2 : ¬ (b2 = (0 : Int32)))).2) (by decide) (by decide) ?_
        refine XS.iloadN X113.here hx rfl (hb hby d58_84) rfl ?_
        refine XS.iload X113.here hx rfl (hb hby d58_85) rfl ?_
        refine XS.icmpNo X113.here hx rfl (hb hby d58_87) rfl (teq ((own_early ha1 hb1 ha2 hb2 e2 f2 (u2 := u2) (v2 := v2)).1 : a2 = b2)).2 ?_
        show own_S p e below T113 m 90 _ [] _
        refine XS.iconst X113.here hx rfl (hb hby d58_90) ?_
        refine XS.istore X113.here hx rfl (hb hby d58_91) rfl (l' := #[oR r0, oI p1, oI p2, oI a2, oI b2, oI 0]) rfl ?_
        refine XS.goto X113.here hx rfl (pc0 := 93) (pc' := 109) rfl (hb hby d58_93) (by decide) (by decide) ?_
        refine XS.iload X113.here hx rfl (hb hby d58_109) rfl ?_
        show own_S p e below T113 m 111 _ [(.int 0)] _
        exact retOut X113 hx Bd.returns rfl (Or.inl ⟨rfl, Or.inl rfl, _, rfl⟩) (hb hby d58_111) hr
      · show Qm58 Z r0 p1 p2 va kva vs u0 u1 u2 v0 v1 v2 h0 n0 _ T113.heap _
        rw [e113]
        exact ⟨(congrArg (fun z => some (Value.int z)) (own_early ha1 hb1 ha2 hb2 e2 f2).2), N110, KK112⟩
theorem d57_0 : decode k57 0 = .ok (.aload_n 0, 1) := by decide +kernel
theorem d57_1 : decode k57 1 = .ok (.dup, 1) := by decide +kernel
theorem d57_2 : decode k57 2 = .ok (.getfield 126, 3) := by decide +kernel
theorem d57_5 : decode k57 5 = .ok (.lconst 1, 1) := by decide +kernel
theorem d57_6 : decode k57 6 = .ok (.ladd, 1) := by decide +kernel
theorem d57_7 : decode k57 7 = .ok (.putfield 126, 3) := by decide +kernel
theorem d57_10 : decode k57 10 = .ok (.aload_n 0, 1) := by decide +kernel
theorem d57_11 : decode k57 11 = .ok (.iload_n 1, 1) := by decide +kernel
theorem d57_12 : decode k57 12 = .ok (.aload_n 0, 1) := by decide +kernel
theorem d57_13 : decode k57 13 = .ok (.getfield 36, 3) := by decide +kernel
theorem d57_16 : decode k57 16 = .ok (.imul, 1) := by decide +kernel
theorem d57_17 : decode k57 17 = .ok (.iload_n 2, 1) := by decide +kernel
theorem d57_18 : decode k57 18 = .ok (.aload_n 0, 1) := by decide +kernel
theorem d57_19 : decode k57 19 = .ok (.getfield 36, 3) := by decide +kernel
theorem d57_22 : decode k57 22 = .ok (.imul, 1) := by decide +kernel
theorem d57_23 : decode k57 23 = .ok (.invokevirtual 130, 3) := by decide +kernel
theorem d57_26 : decode k57 26 = .ok (.ireturn, 1) := by decide +kernel
theorem efm57 (m : MethodId) (r0 : Addr) (p1 : Int32) (p2 : Int32) : entryFrame m #[(.ref r0), (.int p1), (.int p2)] 3 = mkF m 0 #[oR r0, oI p1, oI p2] [] := by first | (simp [entryFrame, mkF, argsToLocals, Value.category]; done) | rfl
def Qm57 (Z : State) (r0 : Addr) (p1 : Int32) (p2 : Int32) (va : Addr) (kva : ClassId) (vs : List Value) (u0 : Int32) (u1 : Int32) (u2 : Int32) (v0 : Int32) (v1 : Int32) (v2 : Int32) (ck : Int64) (h0 : Heap) (n0 : Nat) (v : Option Value) (h : Heap) (L : List Loc) : Prop := v = some (.int (own_rel u0 u1 u2 v0 v1 v2)) ∧ Fr n0 L ∧ (Keep h0 h [r0]) ∧ (Fld Z h r0 kIV "dimension" "I" (.int 3)) ∧ (Fld Z h r0 kIV "values" "[D" (.ref va)) ∧ (Fld Z h r0 kIV "checks" "J" (.long (ck + (1 : Int64))))
set_option maxRecDepth 65536 in
set_option maxHeartbeats 40000000 in
theorem rmm57 (l : Launch) (Z : State) (a0 : Array Value) (hw : own_HW Z a0) (ws : List Jvm.Cond) (r0 : Addr) (p1 : Int32) (p2 : Int32) (va : Addr) (kva : ClassId) (vs : List Value) (u0 : Int32) (u1 : Int32) (u2 : Int32) (v0 : Int32) (v1 : Int32) (v2 : Int32) (ck : Int64) (h0 : Heap) (n0 : Nat) (Z0 : n0 ≤ h0.size) (E_r0 : Exa Z h0 r0 kIV) (g_r0 : n0 ≤ r0) (F_dimension_r0 : Fld Z h0 r0 kIV "dimension" "I" (.int 3)) (F_values_r0 : Fld Z h0 r0 kIV "values" "[D" (.ref va)) (F_checks_r0 : Fld Z h0 r0 kIV "checks" "J" (.long ck)) (V_va : Arv Z h0 va kva .double (6 : Int32) vs (.double 0)) (E_va : Exa Z h0 va "[D") (hy0 : ¬ ((p1 * (3 : Int32)) + (0 : Int32)) < (0 : Int32) ∧ ((p1 * (3 : Int32)) + (0 : Int32)) < (6 : Int32)) (hz0 : ¬ ((p2 * (3 : Int32)) + (0 : Int32)) < (0 : Int32) ∧ ((p2 * (3 : Int32)) + (0 : Int32)) < (6 : Int32)) (gy0 : vs.getD ((p1 * (3 : Int32)) + (0 : Int32)).toNatClampNeg (.double 0) = .double (own_i2 u0)) (gz0 : vs.getD ((p2 * (3 : Int32)) + (0 : Int32)).toNatClampNeg (.double 0) = .double (own_i2 v0)) (hy1 : ¬ ((p1 * (3 : Int32)) + (1 : Int32)) < (0 : Int32) ∧ ((p1 * (3 : Int32)) + (1 : Int32)) < (6 : Int32)) (hz1 : ¬ ((p2 * (3 : Int32)) + (1 : Int32)) < (0 : Int32) ∧ ((p2 * (3 : Int32)) + (1 : Int32)) < (6 : Int32)) (gy1 : vs.getD ((p1 * (3 : Int32)) + (1 : Int32)).toNatClampNeg (.double 0) = .double (own_i2 u1)) (gz1 : vs.getD ((p2 * (3 : Int32)) + (1 : Int32)).toNatClampNeg (.double 0) = .double (own_i2 v1)) (hy2 : ¬ ((p1 * (3 : Int32)) + (2 : Int32)) < (0 : Int32) ∧ ((p1 * (3 : Int32)) + (2 : Int32)) < (6 : Int32)) (hz2 : ¬ ((p2 * (3 : Int32)) + (2 : Int32)) < (0 : Int32) ∧ ((p2 * (3 : Int32)) + (2 : Int32)) < (6 : Int32)) (gy2 : vs.getD ((p1 * (3 : Int32)) + (2 : Int32)).toNatClampNeg (.double 0) = .double (own_i2 u2)) (gz2 : vs.getD ((p2 * (3 : Int32)) + (2 : Int32)).toNatClampNeg (.double 0) = .double (own_i2 v2)) :
    MetFree l (⟨kIV, "compare", "(II)I"⟩ : MethodName) (head1 (Jvm.Cond.code (⟨kIV, "compare", "(II)I"⟩ : MethodName) prog_26_method_11_code 3 (some .int) :: ws) ({ frames := 1, cells := 0, slots := 0, locals := 17 } : Room)) (fun a U => a = #[(.ref r0), (.int p1), (.int p2)] ∧ Z.Warmed39 U.vm ∧ U.heap = h0) (fun _ _ _ _ _ => True) (fun _ U o U' => ∃ v L, o = .returned v ∧ Qm57 Z r0 p1 p2 va kva vs u0 u1 u2 v0 v1 v2 ck h0 n0 v U'.heap L ∧ FrameEnd U o U' L ({ frames := 1, cells := 0, slots := 0, locals := 17 } : Room).cells ({ frames := 1, cells := 0, slots := 0, locals := 17 } : Room).slots) := by
  refine MetFree.of_bodySF (plainFor_of_name pn18) hisR ?_
  intro p e s m args below meth c s₁ Bd hml0 hP hK
  obtain ⟨rfl, hZ, hh⟩ := hP
  have hx := Bd.exec
  have hby := Bd.bytes
  have hml : c.maxLocals = 3 := hml0
  have hown : s.vm.findClass kIV = some m.cls := findClass_of_methodNamed Bd.named
  have hnm := (name_of_methodNamed Bd.named Bd.method).1
  have X0 : Stand p l e ({ frames := 1, cells := 0, slots := 0, locals := 17 } : Room) s m #[(.ref r0), (.int p1), (.int p2)] below meth c s₁ [] 0 0 := Stand.of_body Bd
  have e0 : s₁.heap = h0 := by rw [← hh, Bd.state]; rfl
  have N0 := Fr.nil n0
  have pre0 : ∀ t, Steps p.tables e below (s₁.setTop (mkF m 0 #[oR r0, oI p1, oI p2] [])) t → Steps p.tables e below (s₁.setTop (entryFrame m #[(.ref r0), (.int p1), (.int p2)] 3)) t := fun t k => castTop (efm57 m r0 p1 p2) k
  obtain ⟨T101, X101, e101, st101⟩ := getF X0 hx hZ hown (host := "") (Or.inl (own_w hw 430 rfl)) Via.refl e0 F_checks_r0 (g := (mkF m 2 #[oR r0, oI p1, oI p2] [(.ref r0), (.ref r0)])) rfl rfl (hb hby d57_2)
  obtain ⟨T102, h102, X102, e102, W102, st102⟩ := putF X101 hx hZ hown (host := "") (Or.inl (own_w hw 430 rfl)) Via.refl e101 F_checks_r0 E_r0 (Or.inl (own_w hw 431 rfl)) (own_w hw 320 rfl) (ty := .long) (by decide) rfl rfl (g := (mkF m 7 #[oR r0, oI p1, oI p2] [(.long (ck + (1 : Int64))), (.ref r0)])) rfl rfl (hb hby d57_7)
  have Fw102 := F_checks_r0.same W102
  have N102 := Fr.snoc X102 N0 g_r0
  have ZZ103 : n0 ≤ h102.size := Nat.le_trans Z0 (Nat.le_of_eq W102.size.symm)
  have KK104 : Keep h0 h102 [r0] := (Keep.refl h0 [r0]).wr W102 (Or.inl (List.mem_of_getElem? (i := 0) rfl))
  have Fc105 := (F_dimension_r0.other W102 (Or.inr (Ne.symm (sn35 hw))))
  obtain ⟨T106, X106, e106, st106⟩ := getF X102 hx hZ hown (host := "") (Or.inl (own_w hw 359 rfl)) Via.refl e102 Fc105 (g := (mkF m 13 #[oR r0, oI p1, oI p2] [(.ref r0), (.int p1), (.ref r0)])) rfl rfl (hb hby d57_13)
  obtain ⟨T107, X107, e107, st107⟩ := getF X106 hx hZ hown (host := "") (Or.inl (own_w hw 359 rfl)) Via.refl e106 Fc105 (g := (mkF m 19 #[oR r0, oI p1, oI p2] [(.ref r0), (.int p2), (.int (p1 * (3 : Int32))), (.ref r0)])) rfl rfl (hb hby d57_19)
  have Fc108 := (F_values_r0.other W102 (Or.inr (Ne.symm (sn37 hw))))
  have nq109 : va ≠ r0 := (ne_exa (E_va.wr W102) (E_r0.wr W102) (by decide))
  obtain ⟨_, T110, L110, X110, hQ110, st110⟩ := own_cP X107 hx hZ hw hown (b := r0) (W := 0) (rmm58 l Z a0 hw [] r0 (p1 * (3 : Int32)) (p2 * (3 : Int32)) va kva vs u0 u1 u2 v0 v1 v2 h102 n0 ZZ103 (E_r0.wr W102) Fc105 Fc108 (V_va.other W102 nq109) (E_va.wr W102) hy0 hz0 gy0 gz0 hy1 hz1 gy1 gz1 hy2 hz2 gy2 gz2) (by decide) (by decide) (by decide) 432 rfl 433 rfl 434 rfl 435 rfl 321 rfl (own_selP (y := (⟨kIV, "relation", "(II)I"⟩ : MethodName)) (y2 := (⟨kIV, "compare", "(II)I"⟩ : MethodName)) (own_w hw 428 rfl) rfl (own_w hw 434 rfl) (own_w hw 433 rfl) (by decide)) e107 (E_r0.wr W102) (g := (mkF m 23 #[oR r0, oI p1, oI p2] [(.int (p2 * (3 : Int32))), (.int (p1 * (3 : Int32))), (.ref r0)])) rfl (by rw [hml]; rfl) (argsL := [(.int (p1 * (3 : Int32))), (.int (p2 * (3 : Int32)))]) (rest := []) (lenOf pd2 rfl) rfl (Nat.le_of_eq rfl) (hb hby d57_23) rfl (cN := 0) rfl (by decide) (sN := 0) rfl (by decide)
  obtain ⟨rfl, Nq110, P110_0⟩ := hQ110
  have N110 := Fr.app N102 Nq110
  have ZZ111 : n0 ≤ T110.heap.size := Nat.le_trans ZZ103 P110_0.1
  have KK112 : Keep h0 T110.heap [r0] := Keep.trans KK104 P110_0 all0
  obtain ⟨fs, hr, hrun, hended, hW, hsame⟩ := X110.leave (v := some (.int (own_rel u0 u1 u2 v0 v1 v2))) (fun h => by rw [Bd.returns] at h; cases h)
  refine ⟨_, _, pre0 _ ?_, hrun, hended, _, _, rfl, ?_, ⟨_, rfl⟩, hW, hsame.mono (by decide) (by decide)⟩
  · show own_S p e below s₁ m 0 #[oR r0, oI p1, oI p2] [] _
    refine XS.aloadN X0.here hx rfl (hb hby d57_0) rfl rfl ?_
    refine XS.dup X0.here hx rfl (hb hby d57_1) rfl rfl ?_
    show own_S p e below s₁ m 2 _ [(.ref r0), (.ref r0)] _
    refine st101 _ ?_
    show own_S p e below T101 m 5 _ [(.long ck), (.ref r0)] _
    refine XS.lconst X101.here hx rfl (hb hby d57_5) ?_
    show own_S p e below T101 m 6 _ [(.long (1 : Int64)), (.long ck), (.ref r0)] _
    refine XS.ladd X101.here hx rfl (hb hby d57_6) rfl ?_
    show own_S p e below T101 m 7 _ [(.long (ck + (1 : Int64))), (.ref r0)] _
    refine st102 _ ?_
    show own_S p e below T102 m 10 _ [] _
    refine XS.aloadN X102.here hx rfl (hb hby d57_10) rfl rfl ?_
    refine XS.iloadN X102.here hx rfl (hb hby d57_11) rfl ?_
    refine XS.aloadN X102.here hx rfl (hb hby d57_12) rfl rfl ?_
    show own_S p e below T102 m 13 _ [(.ref r0), (.int p1), (.ref r0)] _
    refine st106 _ ?_
    show own_S p e below T106 m 16 _ [(.int 3), (.int p1), (.ref r0)] _
    refine XS.imul X106.here hx rfl (hb hby d57_16) rfl ?_
    show own_S p e below T106 m 17 _ [(.int (p1 * (3 : Int32))), (.ref r0)] _
    refine XS.iloadN X106.here hx rfl (hb hby d57_17) rfl ?_
    refine XS.aloadN X106.here hx rfl (hb hby d57_18) rfl rfl ?_
    show own_S p e below T106 m 19 _ [(.ref r0), (.int p2), (.int (p1 * (3 : Int32))), (.ref r0)] _
    refine st107 _ ?_
    show own_S p e below T107 m 22 #[oR r0, oI p1, oI p2] [(.int 3), (.int p2), (.int (p1 * (3 : Int32))), (.ref r0)] _
    refine XS.imul X107.here hx rfl (hb hby d57_22) rfl ?_
    show own_S p e below T107 m 23 _ [(.int (p2 * (3 : Int32))), (.int (p1 * (3 : Int32))), (.ref r0)] _
    refine st110.trans ?_
    show own_S p e below T110 m 26 _ [(.int (own_rel u0 u1 u2 v0 v1 v2))] _
    exact retOut X110 hx Bd.returns rfl (Or.inl ⟨rfl, Or.inl rfl, _, rfl⟩) (hb hby d57_26) hr
  · show Qm57 Z r0 p1 p2 va kva vs u0 u1 u2 v0 v1 v2 ck h0 n0 _ T110.heap _
    exact ⟨rfl, N110, KK112, (Fc105.keep P110_0 nin0), (Fc108.keep P110_0 nin0), (Fw102.keep P110_0 nin0)⟩
theorem d59_0 : decode prog_26_method_13_code 0 = .ok (.aload_n 0, 1) := by decide +kernel
theorem d59_1 : decode prog_26_method_13_code 1 = .ok (.getfield 126, 3) := by decide +kernel
theorem d59_4 : decode prog_26_method_13_code 4 = .ok (.lreturn, 1) := by decide +kernel
theorem efm59 (m : MethodId) (r0 : Addr) : entryFrame m #[(.ref r0)] 1 = mkF m 0 #[oR r0] [] := by first | (simp [entryFrame, mkF, argsToLocals, Value.category]; done) | rfl
def Qm59 (Z : State) (r0 : Addr) (ck : Int64) (h0 : Heap) (n0 : Nat) (v : Option Value) (h : Heap) (L : List Loc) : Prop := v = some (.long ck) ∧ Fr n0 L ∧ (h = h0)
set_option maxRecDepth 65536 in
set_option maxHeartbeats 40000000 in
theorem rmm59 (l : Launch) (Z : State) (a0 : Array Value) (hw : own_HW Z a0) (ws : List Jvm.Cond) (r0 : Addr) (ck : Int64) (h0 : Heap) (n0 : Nat) (Z0 : n0 ≤ h0.size) (F_checks_r0 : Fld Z h0 r0 kIV "checks" "J" (.long ck)) :
    MetFree l (⟨kIV, "checks", "()J"⟩ : MethodName) (head1 (Jvm.Cond.code (⟨kIV, "checks", "()J"⟩ : MethodName) prog_26_method_13_code 1 (some .long) :: ws) ({ frames := 0, cells := 0, slots := 0, locals := 0 } : Room)) (fun a U => a = #[(.ref r0)] ∧ Z.Warmed39 U.vm ∧ U.heap = h0) (fun _ _ _ _ _ => True) (fun _ U o U' => ∃ v L, o = .returned v ∧ Qm59 Z r0 ck h0 n0 v U'.heap L ∧ FrameEnd U o U' L ({ frames := 0, cells := 0, slots := 0, locals := 0 } : Room).cells ({ frames := 0, cells := 0, slots := 0, locals := 0 } : Room).slots) := by
  refine MetFree.of_bodySF (plainFor_of_name pn18) hisR ?_
  intro p e s m args below meth c s₁ Bd hml0 hP hK
  obtain ⟨rfl, hZ, hh⟩ := hP
  have hx := Bd.exec
  have hby := Bd.bytes
  have hml : c.maxLocals = 1 := hml0
  have hown : s.vm.findClass kIV = some m.cls := findClass_of_methodNamed Bd.named
  have hnm := (name_of_methodNamed Bd.named Bd.method).1
  have X0 : Stand p l e ({ frames := 0, cells := 0, slots := 0, locals := 0 } : Room) s m #[(.ref r0)] below meth c s₁ [] 0 0 := Stand.of_body Bd
  have e0 : s₁.heap = h0 := by rw [← hh, Bd.state]; rfl
  have N0 := Fr.nil n0
  have pre0 : ∀ t, Steps p.tables e below (s₁.setTop (mkF m 0 #[oR r0] [])) t → Steps p.tables e below (s₁.setTop (entryFrame m #[(.ref r0)] 1)) t := fun t k => castTop (efm59 m r0) k
  obtain ⟨T101, X101, e101, st101⟩ := getF X0 hx hZ hown (host := "") (Or.inl (own_w hw 430 rfl)) Via.refl e0 F_checks_r0 (g := (mkF m 1 #[oR r0] [(.ref r0)])) rfl rfl (hb hby d59_1)
  obtain ⟨fs, hr, hrun, hended, hW, hsame⟩ := X101.leave (v := some (.long ck)) (fun h => by rw [Bd.returns] at h; cases h)
  refine ⟨_, _, pre0 _ ?_, hrun, hended, _, _, rfl, ?_, ⟨_, rfl⟩, hW, hsame.mono (by decide) (by decide)⟩
  · show own_S p e below s₁ m 0 #[oR r0] [] _
    refine XS.aloadN X0.here hx rfl (hb hby d59_0) rfl rfl ?_
    show own_S p e below s₁ m 1 _ [(.ref r0)] _
    refine st101 _ ?_
    show own_S p e below T101 m 4 _ [(.long ck)] _
    exact retOut X101 hx Bd.returns rfl (Or.inr (Or.inl ⟨rfl, rfl, _, rfl⟩)) (hb hby d59_4) hr
  · show Qm59 Z r0 ck h0 n0 _ T101.heap _
    rw [e101]
    exact ⟨rfl, N0, rfl⟩
theorem pd30 : parseMethodDescriptor "(I)I" = some ⟨[.int], some .int⟩ := by decide +kernel
theorem pd31 : parseMethodDescriptor "(D)Ljava/lang/Double;" = some ⟨[.double], some (.object kDB)⟩ := by decide +kernel
theorem pd32 : parseMethodDescriptor "(Ljava/lang/String;Ljava/util/List;)V" = some ⟨[(.object "java/lang/String"), (.object "java/util/List")], none⟩ := by decide +kernel
theorem pd33 : parseMethodDescriptor "(Ljava/util/List;)V" = some ⟨[(.object "java/util/List")], none⟩ := by decide +kernel
theorem pd34 : parseMethodDescriptor "()J" = some ⟨[], some .long⟩ := by decide +kernel
theorem efm0 (m : MethodId) (p0 : Int32) (p1 : Int32) (p2 : Int32) (p3 : Int32) (p4 : Int32) (p5 : Int32) : entryFrame m #[(.int p0), (.int p1), (.int p2), (.int p3), (.int p4), (.int p5)] maxLocals = mkF m 0 #[oI p0, oI p1, oI p2, oI p3, oI p4, oI p5, oU, oU, oU, oU, oU, oU, oU, oU, oU, oU, oU, oU, oU, oU, oU, oU, oU, oU] [] := by first | (simp [entryFrame, mkF, argsToLocals, Value.category, maxLocals]; done) | rfl
def Qm0 (Z : State) (p0 : Int32) (p1 : Int32) (p2 : Int32) (p3 : Int32) (p4 : Int32) (p5 : Int32) (de : Addr) (kde : ClassId) (em : Addr) (mr : Addr) (h0 : Heap) (n0 : Nat) (v : Option Value) (h : Heap) (L : List Loc) : Prop := v = some (.int 1) ∧ Fr n0 L
set_option maxRecDepth 65536 in
set_option maxHeartbeats 40000000 in
theorem rmm0 (l : Launch) (Z : State) (a0 : Array Value) (hw : own_HW Z a0) (ws : List Jvm.Cond) (p0 : Int32) (p1 : Int32) (p2 : Int32) (p3 : Int32) (p4 : Int32) (p5 : Int32) (de : Addr) (kde : ClassId) (em : Addr) (mr : Addr) (h0 : Heap) (n0 : Nat) (Z0 : n0 ≤ h0.size) (hOld : Old Z n0 h0) (S_DEFAULTCAPACITY_EMPTY_ELEMENTDATA : Sta Z Z.heap kAL "DEFAULTCAPACITY_EMPTY_ELEMENTDATA" kOA (.ref de)) (V_de : Arv Z Z.heap de kde (.object kOB) (0 : Int32) [] .null) (E_de : Exa Z Z.heap de kOA) (S_EMPTY : Sta Z Z.heap "java/util/ImmutableCollections" "EMPTY" "Ljava/lang/Object;" (.ref em)) (E_em : Exa Z Z.heap em kOB) (M_mr : own_Mi Z kOA mr) :
    MetFree l x (head1 (Jvm.Cond.code x code maxLocals ret :: ws) room_1) (fun a U => a = #[(.int p0), (.int p1), (.int p2), (.int p3), (.int p4), (.int p5)] ∧ Z.Warmed39 U.vm ∧ U.heap = h0) (fun _ _ _ _ _ => True) (fun _ U o U' => ∃ v L, o = .returned v ∧ Qm0 Z p0 p1 p2 p3 p4 p5 de kde em mr h0 n0 v U'.heap L ∧ ReturnedEndW U o U' L room_1.cells room_1.slots) := by
  refine MetFree.of_bodySF (plainFor_of_name pn19) hisR ?_
  intro p e s m args below meth c s₁ Bd hml0 hP hK
  obtain ⟨rfl, hZ, hh⟩ := hP
  have hx := Bd.exec
  have hby := Bd.bytes
  have hml : c.maxLocals = 24 := hml0
  have hown : s.vm.findClass "com/example/matchwright/matchwright/core/InstanceVectorsComparePinLaw" = some m.cls := findClass_of_methodNamed Bd.named
  have hnm := (name_of_methodNamed Bd.named Bd.method).1
  have X0 : Stand p l e room_1 (s.setVm s.vm) m #[(.int p0), (.int p1), (.int p2), (.int p3), (.int p4), (.int p5)] below meth c s₁ [] 0 0 := Stand.of_body Bd
  have e0 : s₁.heap = h0 := by rw [← hh, Bd.state]; rfl
  have N0 := Fr.nil n0
  have pre0 : ∀ t, Steps p.tables e below (s₁.setTop (mkF m 0 #[oI p0, oI p1, oI p2, oI p3, oI p4, oI p5, oU, oU, oU, oU, oU, oU, oU, oU, oU, oU, oU, oU, oU, oU, oU, oU, oU, oU] [])) t → Steps p.tables e below (s₁.setTop (entryFrame m #[(.int p0), (.int p1), (.int p2), (.int p3), (.int p4), (.int p5)] maxLocals)) t := fun t k => castTop (efm0 m p0 p1 p2 p3 p4 p5) k
  have hS0 := (State.WarmedH.refl s).since 0
  replace hZ : Z.Warmed39 (s.setVm s.vm).vm := hZ
  replace hown : (s.setVm s.vm).vm.findClass "com/example/matchwright/matchwright/core/InstanceVectorsComparePinLaw" = some m.cls := hown
  obtain ⟨u0, hu0⟩ : ∃ zz, zz = ((p0 &&& (7 : Int32)) - (3 : Int32)) := ⟨_, rfl⟩
  obtain ⟨u1, hu1⟩ : ∃ zz, zz = ((p1 &&& (7 : Int32)) - (3 : Int32)) := ⟨_, rfl⟩
  obtain ⟨u2, hu2⟩ : ∃ zz, zz = ((p2 &&& (7 : Int32)) - (3 : Int32)) := ⟨_, rfl⟩
  obtain ⟨v0, hv0⟩ : ∃ zz, zz = ((p3 &&& (7 : Int32)) - (3 : Int32)) := ⟨_, rfl⟩
  obtain ⟨v1, hv1⟩ : ∃ zz, zz = ((p4 &&& (7 : Int32)) - (3 : Int32)) := ⟨_, rfl⟩
  obtain ⟨v2, hv2⟩ : ∃ zz, zz = ((p5 &&& (7 : Int32)) - (3 : Int32)) := ⟨_, rfl⟩
  obtain ⟨gt, hgt⟩ : ∃ zz, zz = own_g u0 u1 u2 v0 v1 v2 := ⟨_, rfl⟩
  obtain ⟨lt, hlt⟩ : ∃ zz, zz = own_g v0 v1 v2 u0 u1 u2 := ⟨_, rfl⟩
  obtain ⟨ex, hex⟩ : ∃ zz, zz = own_rl gt lt := ⟨_, rfl⟩
  obtain ⟨_, T101, L101, X101, hQ101, st101⟩ := own_cS X0 hx hZ hw hown (W := 0) (rmm1 l Z a0 hw [] p0 h0 n0 Z0 ) (by decide) (by decide) (by decide) 0 rfl 1 rfl 2 rfl 3 rfl e0 (g := (mkF m 1 #[oI p0, oI p1, oI p2, oI p3, oI p4, oI p5, oU, oU, oU, oU, oU, oU, oU, oU, oU, oU, oU, oU, oU, oU, oU, oU, oU, oU] [(.int p0)])) rfl (by rw [hml]; rfl) (argsL := [(.int p0)]) (rest := []) (lenOf pd30 rfl) rfl (Nat.le_of_eq rfl) (hb hby at_1) rfl (cN := 0) rfl (by decide) (sN := 0) rfl (by decide)
  obtain ⟨rfl, Nq101, P101_0⟩ := hQ101
  have N101 := Fr.app N0 Nq101
  obtain ⟨_, T102, L102, X102, hQ102, st102⟩ := own_cS X101 hx hZ hw hown (W := 0) (rmm1 l Z a0 hw [] p1 h0 n0 Z0 ) (by decide) (by decide) (by decide) 0 rfl 1 rfl 2 rfl 3 rfl P101_0 (g := (mkF m 7 #[oI p0, oI p1, oI p2, oI p3, oI p4, oI p5, oI u0, oU, oU, oU, oU, oU, oU, oU, oU, oU, oU, oU, oU, oU, oU, oU, oU, oU] [(.int p1)])) rfl (by rw [hml]; rfl) (argsL := [(.int p1)]) (rest := []) (lenOf pd30 rfl) rfl (Nat.le_of_eq rfl) (hb hby at_7) rfl (cN := 0) rfl (by decide) (sN := 0) rfl (by decide)
  obtain ⟨rfl, Nq102, P102_0⟩ := hQ102
  have N102 := Fr.app N101 Nq102
  obtain ⟨_, T103, L103, X103, hQ103, st103⟩ := own_cS X102 hx hZ hw hown (W := 0) (rmm1 l Z a0 hw [] p2 h0 n0 Z0 ) (by decide) (by decide) (by decide) 0 rfl 1 rfl 2 rfl 3 rfl P102_0 (g := (mkF m 13 #[oI p0, oI p1, oI p2, oI p3, oI p4, oI p5, oI u0, oI u1, oU, oU, oU, oU, oU, oU, oU, oU, oU, oU, oU, oU, oU, oU, oU, oU] [(.int p2)])) rfl (by rw [hml]; rfl) (argsL := [(.int p2)]) (rest := []) (lenOf pd30 rfl) rfl (Nat.le_of_eq rfl) (hb hby at_13) rfl (cN := 0) rfl (by decide) (sN := 0) rfl (by decide)
  obtain ⟨rfl, Nq103, P103_0⟩ := hQ103
  have N103 := Fr.app N102 Nq103
  obtain ⟨_, T104, L104, X104, hQ104, st104⟩ := own_cS X103 hx hZ hw hown (W := 0) (rmm1 l Z a0 hw [] p3 h0 n0 Z0 ) (by decide) (by decide) (by decide) 0 rfl 1 rfl 2 rfl 3 rfl P103_0 (g := (mkF m 19 #[oI p0, oI p1, oI p2, oI p3, oI p4, oI p5, oI u0, oI u1, oI u2, oU, oU, oU, oU, oU, oU, oU, oU, oU, oU, oU, oU, oU, oU, oU] [(.int p3)])) rfl (by rw [hml]; rfl) (argsL := [(.int p3)]) (rest := []) (lenOf pd30 rfl) rfl (Nat.le_of_eq rfl) (hb hby at_19) rfl (cN := 0) rfl (by decide) (sN := 0) rfl (by decide)
  obtain ⟨rfl, Nq104, P104_0⟩ := hQ104
  have N104 := Fr.app N103 Nq104
  obtain ⟨_, T105, L105, X105, hQ105, st105⟩ := own_cS X104 hx hZ hw hown (W := 0) (rmm1 l Z a0 hw [] p4 h0 n0 Z0 ) (by decide) (by decide) (by decide) 0 rfl 1 rfl 2 rfl 3 rfl P104_0 (g := (mkF m 26 #[oI p0, oI p1, oI p2, oI p3, oI p4, oI p5, oI u0, oI u1, oI u2, oI v0, oU, oU, oU, oU, oU, oU, oU, oU, oU, oU, oU, oU, oU, oU] [(.int p4)])) rfl (by rw [hml]; rfl) (argsL := [(.int p4)]) (rest := []) (lenOf pd30 rfl) rfl (Nat.le_of_eq rfl) (hb hby at_26) rfl (cN := 0) rfl (by decide) (sN := 0) rfl (by decide)
  obtain ⟨rfl, Nq105, P105_0⟩ := hQ105
  have N105 := Fr.app N104 Nq105
  obtain ⟨_, T106, L106, X106, hQ106, st106⟩ := own_cS X105 hx hZ hw hown (W := 0) (rmm1 l Z a0 hw [] p5 h0 n0 Z0 ) (by decide) (by decide) (by decide) 0 rfl 1 rfl 2 rfl 3 rfl P105_0 (g := (mkF m 33 #[oI p0, oI p1, oI p2, oI p3, oI p4, oI p5, oI u0, oI u1, oI u2, oI v0, oI v1, oU, oU, oU, oU, oU, oU, oU, oU, oU, oU, oU, oU, oU] [(.int p5)])) rfl (by rw [hml]; rfl) (argsL := [(.int p5)]) (rest := []) (lenOf pd30 rfl) rfl (Nat.le_of_eq rfl) (hb hby at_33) rfl (cN := 0) rfl (by decide) (sN := 0) rfl (by decide)
  obtain ⟨rfl, Nq106, P106_0⟩ := hQ106
  have N106 := Fr.app N105 Nq106
  obtain ⟨T107, h107, X107, e107, E107, A107, D107, -, st107⟩ := newO X106 hx hZ hown (own_w hw 4 rfl) (own_w hw 5 rfl) (own_w hw 6 rfl) P106_0 (g := (mkF m 38 #[oI p0, oI p1, oI p2, oI p3, oI p4, oI p5, oI u0, oI u1, oI u2, oI v0, oI v1, oI v2, oU, oU, oU, oU, oU, oU, oU, oU, oU, oU, oU, oU] [])) rfl (hb hby at_38) (by decide) (by decide)
  obtain ⟨b107, g107⟩ : ∃ z, z = h0.size := ⟨_, rfl⟩
  rw [← g107] at A107 D107 st107
  have g_b107 : n0 ≤ b107 := Nat.le_trans Z0 (Nat.le_of_eq g107.symm)
  have ZZ109 : n0 ≤ h107.size := Nat.le_trans Z0 E107.1
  have F_modCount_b107 : Fld Z h107 b107 kABL "modCount" "I" (.int 0) := D107 (Or.inl (own_w hw 26 rfl)) (ty := .int) (by decide)
  have F_elementData_b107 : Fld Z h107 b107 kAL "elementData" kOA .null := D107 (Or.inl (own_w hw 29 rfl)) (ty := (.array (.object kOB))) (by decide)
  have F_size_b107 : Fld Z h107 b107 kAL "size" "I" (.int 0) := D107 (Or.inl (own_w hw 61 rfl)) (ty := .int) (by decide)
  obtain ⟨_, T110, L110, X110, hQ110, st110⟩ := own_cC X107 hx hZ hw hown (b := b107) (W := 1) (rmm2 l Z a0 hw [] b107 .null (.int 0) (.int 0) de h107 n0 ZZ109 A107 g_b107 F_elementData_b107 F_size_b107 F_modCount_b107 (hOld.ext E107) S_DEFAULTCAPACITY_EMPTY_ELEMENTDATA) (by decide) (by decide) (by decide) rfl 7 rfl 8 rfl 9 rfl 6 rfl e107 (g := (mkF m 42 #[oI p0, oI p1, oI p2, oI p3, oI p4, oI p5, oI u0, oI u1, oI u2, oI v0, oI v1, oI v2, oU, oU, oU, oU, oU, oU, oU, oU, oU, oU, oU, oU] [(.ref b107), (.ref b107)])) rfl (by rw [hml]; rfl) (argsL := []) (rest := [(.ref b107)]) (lenOf pd0 rfl) rfl (Nat.le_of_eq rfl) (hb hby at_42) rfl (cN := 1) rfl (by decide) (sN := 3) rfl (by decide)
  obtain ⟨rfl, Nq110, P110_0, P110_1, P110_2, P110_3⟩ := hQ110
  have N110 := Fr.app N106 Nq110
  have ZZ112 : n0 ≤ T110.heap.size := Nat.le_trans ZZ109 P110_0.1
  obtain ⟨_, T113, L113, X113, hQ113, st113⟩ := own_cS X110 hx hZ hw hown (W := 1) (rmm6 l Z a0 hw [] (own_i2 u0) T110.heap n0 ZZ112 ) (by decide) (by decide) (by decide) 30 rfl 31 rfl 32 rfl 33 rfl rfl (g := (mkF m 52 #[oI p0, oI p1, oI p2, oI p3, oI p4, oI p5, oI u0, oI u1, oI u2, oI v0, oI v1, oI v2, oR b107, oU, oU, oU, oU, oU, oU, oU, oU, oU, oU, oU] [(.double (own_i2 u0)), (.ref b107)])) rfl (by rw [hml]; rfl) (argsL := [(.double (own_i2 u0))]) (rest := [(.ref b107)]) (lenOf pd31 rfl) rfl (Nat.le_of_eq rfl) (hb hby at_52) rfl (cN := 2) rfl (by decide) (sN := 4) rfl (by decide)
  obtain ⟨x_113, rfl, Nq113, P113_0, P113_1, P113_2, P113_3⟩ := hQ113
  have N113 := Fr.app N110 Nq113
  have g_x_113 : n0 ≤ x_113 := Nat.le_trans ZZ112 P113_1
  have ZZ115 : n0 ≤ T113.heap.size := Nat.le_trans ZZ112 P113_0.1
  have Fc116 := ((A107.keep P110_0).keep P113_0)
  have Fc117 := (P110_1.keep P113_0 nin0)
  have Fc118 := (P110_2.keep P113_0 nin0)
  have Fc119 := (P110_3.keep P113_0 nin0)
  have Ol120 := (((hOld.ext E107).keep P110_0 (allS g_b107 all0)).keep P113_0 all0)
  obtain ⟨_, T121, L121, X121, hQ121, st121⟩ := own_cI X113 hx hZ hw hown (b := b107) (W := 0) (rm_a1g l Z a0 hw [] b107 x_113 (0 : Int32) de kde T113.heap n0 ZZ115 Fc116 g_b107 Fc117 Fc118 Fc119 Ol120 S_DEFAULTCAPACITY_EMPTY_ELEMENTDATA V_de E_de (Ins.of_exa P113_2 (own_w hw 83 rfl))) (by decide) (by decide) (by decide) 49 rfl 50 rfl 51 rfl 52 rfl 53 rfl 54 rfl 55 rfl 56 rfl 57 rfl 6 rfl rfl Fc116 (g := (mkF m 55 #[oI p0, oI p1, oI p2, oI p3, oI p4, oI p5, oI u0, oI u1, oI u2, oI v0, oI v1, oI v2, oR b107, oU, oU, oU, oU, oU, oU, oU, oU, oU, oU, oU] [(.ref x_113), (.ref b107)])) rfl (by rw [hml]; rfl) (argsL := [(.ref x_113)]) (rest := []) (lenOf pd25 rfl) rfl (Nat.le_of_eq rfl) (hb hby at_55) rfl (cN := 3) rfl (by decide) (sN := 14) rfl (by decide)
  obtain ⟨el_121, kel_121, rfl, Nq121, P121_0, P121_1, P121_2, P121_3, P121_4, P121_5, P121_6, P121_7⟩ := hQ121
  have N121 := Fr.app N113 Nq121
  have g_el_121 : n0 ≤ el_121 := Nat.le_trans ZZ115 P121_1
  have ZZ123 : n0 ≤ T121.heap.size := Nat.le_trans ZZ115 P121_0.1
  have Fr124 : Fld Z T121.heap b107 kABL "modCount" "I" (.int 1) := (own_fi (by decide) P121_4)
  obtain ⟨_, T125, L125, X125, hQ125, st125⟩ := own_cS X121 hx hZ hw hown (W := 1) (rmm6 l Z a0 hw [] (own_i2 u1) T121.heap n0 ZZ123 ) (by decide) (by decide) (by decide) 30 rfl 31 rfl 32 rfl 33 rfl rfl (g := (mkF m 66 #[oI p0, oI p1, oI p2, oI p3, oI p4, oI p5, oI u0, oI u1, oI u2, oI v0, oI v1, oI v2, oR b107, oU, oU, oU, oU, oU, oU, oU, oU, oU, oU, oU] [(.double (own_i2 u1)), (.ref b107)])) rfl (by rw [hml]; rfl) (argsL := [(.double (own_i2 u1))]) (rest := [(.ref b107)]) (lenOf pd31 rfl) rfl (Nat.le_of_eq rfl) (hb hby at_66) rfl (cN := 4) rfl (by decide) (sN := 15) rfl (by decide)
  obtain ⟨x_125, rfl, Nq125, P125_0, P125_1, P125_2, P125_3⟩ := hQ125
  have N125 := Fr.app N121 Nq125
  have g_x_125 : n0 ≤ x_125 := Nat.le_trans ZZ123 P125_1
  have ZZ127 : n0 ≤ T125.heap.size := Nat.le_trans ZZ123 P125_0.1
  have Fc128 := ((Fc116.keep P121_0).keep P125_0)
  have Fc129 := (P121_2.keep P125_0 nin0)
  have Fc130 := (P121_3.keep P125_0 nin0)
  have Fc131 := (P121_5.keep P125_0 nin0)
  obtain ⟨_, T132, L132, X132, hQ132, st132⟩ := own_cI X125 hx hZ hw hown (b := b107) (W := 0) (rm_a1n l Z a0 hw [] b107 x_125 (1 : Int32) el_121 kel_121 (1 : Int32) (10 : Int32) 1 [(.ref x_113), .null, .null, .null] T125.heap n0 ZZ127 Fc128 g_b107 g_el_121 Fc129 Fc130 (Fr124.keep P125_0 nin0) Fc131 (P121_6.keep P125_0) P121_7 (Ins.of_exa P125_2 (own_w hw 83 rfl)) (by decide) (⟨by decide, by decide⟩) (by decide) (Nat.le_of_ble_eq_true rfl)) (by decide) (by decide) (by decide) 49 rfl 50 rfl 51 rfl 52 rfl 53 rfl 54 rfl 55 rfl 56 rfl 57 rfl 6 rfl rfl Fc128 (g := (mkF m 69 #[oI p0, oI p1, oI p2, oI p3, oI p4, oI p5, oI u0, oI u1, oI u2, oI v0, oI v1, oI v2, oR b107, oU, oU, oU, oU, oU, oU, oU, oU, oU, oU, oU] [(.ref x_125), (.ref b107)])) rfl (by rw [hml]; rfl) (argsL := [(.ref x_125)]) (rest := []) (lenOf pd25 rfl) rfl (Nat.le_of_eq rfl) (hb hby at_69) rfl (cN := 4) rfl (by decide) (sN := 15) rfl (by decide)
  obtain ⟨rfl, Nq132, P132_0, P132_1, P132_2, P132_3, P132_4⟩ := hQ132
  have N132 := Fr.app N125 Nq132
  have ZZ134 : n0 ≤ T132.heap.size := Nat.le_trans ZZ127 P132_0.1
  have Vr135 : Arv Z T132.heap el_121 kel_121 (.object kOB) (10 : Int32) [(.ref x_113), (.ref x_125), .null, .null] .null := P132_4
  have Fr136 : Fld Z T132.heap b107 kAL "size" "I" (.int 2) := (own_fi (by decide) P132_2)
  have Fr137 : Fld Z T132.heap b107 kABL "modCount" "I" (.int 2) := (own_fi (by decide) P132_3)
  obtain ⟨_, T138, L138, X138, hQ138, st138⟩ := own_cS X132 hx hZ hw hown (W := 1) (rmm6 l Z a0 hw [] (own_i2 u2) T132.heap n0 ZZ134 ) (by decide) (by decide) (by decide) 30 rfl 31 rfl 32 rfl 33 rfl rfl (g := (mkF m 80 #[oI p0, oI p1, oI p2, oI p3, oI p4, oI p5, oI u0, oI u1, oI u2, oI v0, oI v1, oI v2, oR b107, oU, oU, oU, oU, oU, oU, oU, oU, oU, oU, oU] [(.double (own_i2 u2)), (.ref b107)])) rfl (by rw [hml]; rfl) (argsL := [(.double (own_i2 u2))]) (rest := [(.ref b107)]) (lenOf pd31 rfl) rfl (Nat.le_of_eq rfl) (hb hby at_80) rfl (cN := 5) rfl (by decide) (sN := 16) rfl (by decide)
  obtain ⟨x_138, rfl, Nq138, P138_0, P138_1, P138_2, P138_3⟩ := hQ138
  have N138 := Fr.app N132 Nq138
  have g_x_138 : n0 ≤ x_138 := Nat.le_trans ZZ134 P138_1
  have ZZ140 : n0 ≤ T138.heap.size := Nat.le_trans ZZ134 P138_0.1
  have Fc141 := ((Fc128.keep P132_0).keep P138_0)
  have Fc142 := (P132_1.keep P138_0 nin0)
  have Fc143 := (((P121_6.keep P125_0).keep P132_0).keep P138_0)
  obtain ⟨_, T144, L144, X144, hQ144, st144⟩ := own_cI X138 hx hZ hw hown (b := b107) (W := 0) (rm_a1n l Z a0 hw [] b107 x_138 (2 : Int32) el_121 kel_121 (2 : Int32) (10 : Int32) 2 [(.ref x_113), (.ref x_125), .null, .null] T138.heap n0 ZZ140 Fc141 g_b107 g_el_121 Fc142 (Fr136.keep P138_0 nin0) (Fr137.keep P138_0 nin0) (Vr135.keep P138_0 nin0) Fc143 P121_7 (Ins.of_exa P138_2 (own_w hw 83 rfl)) (by decide) (⟨by decide, by decide⟩) (by decide) (Nat.le_of_ble_eq_true rfl)) (by decide) (by decide) (by decide) 49 rfl 50 rfl 51 rfl 52 rfl 53 rfl 54 rfl 55 rfl 56 rfl 57 rfl 6 rfl rfl Fc141 (g := (mkF m 83 #[oI p0, oI p1, oI p2, oI p3, oI p4, oI p5, oI u0, oI u1, oI u2, oI v0, oI v1, oI v2, oR b107, oU, oU, oU, oU, oU, oU, oU, oU, oU, oU, oU] [(.ref x_138), (.ref b107)])) rfl (by rw [hml]; rfl) (argsL := [(.ref x_138)]) (rest := []) (lenOf pd25 rfl) rfl (Nat.le_of_eq rfl) (hb hby at_83) rfl (cN := 5) rfl (by decide) (sN := 16) rfl (by decide)
  obtain ⟨rfl, Nq144, P144_0, P144_1, P144_2, P144_3, P144_4⟩ := hQ144
  have N144 := Fr.app N138 Nq144
  have ZZ146 : n0 ≤ T144.heap.size := Nat.le_trans ZZ140 P144_0.1
  have Vr147 : Arv Z T144.heap el_121 kel_121 (.object kOB) (10 : Int32) [(.ref x_113), (.ref x_125), (.ref x_138), .null] .null := P144_4
  have Fr148 : Fld Z T144.heap b107 kAL "size" "I" (.int 3) := (own_fi (by decide) P144_2)
  have Fr149 : Fld Z T144.heap b107 kABL "modCount" "I" (.int 3) := (own_fi (by decide) P144_3)
  obtain ⟨T150, h150, X150, e150, E150, A150, D150, -, st150⟩ := newO X144 hx hZ hown (own_w hw 4 rfl) (own_w hw 5 rfl) (own_w hw 6 rfl) rfl (g := (mkF m 89 #[oI p0, oI p1, oI p2, oI p3, oI p4, oI p5, oI u0, oI u1, oI u2, oI v0, oI v1, oI v2, oR b107, oU, oU, oU, oU, oU, oU, oU, oU, oU, oU, oU] [])) rfl (hb hby at_89) (by decide) (by decide)
  obtain ⟨b150, g150⟩ : ∃ z, z = T144.heap.size := ⟨_, rfl⟩
  rw [← g150] at A150 D150 st150
  have g_b150 : n0 ≤ b150 := Nat.le_trans ZZ146 (Nat.le_of_eq g150.symm)
  have ZZ152 : n0 ≤ h150.size := Nat.le_trans ZZ146 E150.1
  have F_modCount_b150 : Fld Z h150 b150 kABL "modCount" "I" (.int 0) := D150 (Or.inl (own_w hw 26 rfl)) (ty := .int) (by decide)
  have F_elementData_b150 : Fld Z h150 b150 kAL "elementData" kOA .null := D150 (Or.inl (own_w hw 29 rfl)) (ty := (.array (.object kOB))) (by decide)
  have F_size_b150 : Fld Z h150 b150 kAL "size" "I" (.int 0) := D150 (Or.inl (own_w hw 61 rfl)) (ty := .int) (by decide)
  have Ol153 := ((((((Ol120.keep P121_0 (allS g_b107 all0)).keep P125_0 all0).keep P132_0 (allS g_b107 (allS g_el_121 all0))).keep P138_0 all0).keep P144_0 (allS g_b107 (allS g_el_121 all0))).ext E150)
  obtain ⟨_, T154, L154, X154, hQ154, st154⟩ := own_cC X150 hx hZ hw hown (b := b150) (W := 1) (rmm2 l Z a0 hw [] b150 .null (.int 0) (.int 0) de h150 n0 ZZ152 A150 g_b150 F_elementData_b150 F_size_b150 F_modCount_b150 Ol153 S_DEFAULTCAPACITY_EMPTY_ELEMENTDATA) (by decide) (by decide) (by decide) rfl 7 rfl 8 rfl 9 rfl 6 rfl e150 (g := (mkF m 93 #[oI p0, oI p1, oI p2, oI p3, oI p4, oI p5, oI u0, oI u1, oI u2, oI v0, oI v1, oI v2, oR b107, oU, oU, oU, oU, oU, oU, oU, oU, oU, oU, oU] [(.ref b150), (.ref b150)])) rfl (by rw [hml]; rfl) (argsL := []) (rest := [(.ref b150)]) (lenOf pd0 rfl) rfl (Nat.le_of_eq rfl) (hb hby at_93) rfl (cN := 6) rfl (by decide) (sN := 19) rfl (by decide)
  obtain ⟨rfl, Nq154, P154_0, P154_1, P154_2, P154_3⟩ := hQ154
  have N154 := Fr.app N144 Nq154
  have ZZ156 : n0 ≤ T154.heap.size := Nat.le_trans ZZ152 P154_0.1
  obtain ⟨_, T157, L157, X157, hQ157, st157⟩ := own_cS X154 hx hZ hw hown (W := 1) (rmm6 l Z a0 hw [] (own_i2 v0) T154.heap n0 ZZ156 ) (by decide) (by decide) (by decide) 30 rfl 31 rfl 32 rfl 33 rfl rfl (g := (mkF m 103 #[oI p0, oI p1, oI p2, oI p3, oI p4, oI p5, oI u0, oI u1, oI u2, oI v0, oI v1, oI v2, oR b107, oR b150, oU, oU, oU, oU, oU, oU, oU, oU, oU, oU] [(.double (own_i2 v0)), (.ref b150)])) rfl (by rw [hml]; rfl) (argsL := [(.double (own_i2 v0))]) (rest := [(.ref b150)]) (lenOf pd31 rfl) rfl (Nat.le_of_eq rfl) (hb hby at_103) rfl (cN := 7) rfl (by decide) (sN := 20) rfl (by decide)
  obtain ⟨x_157, rfl, Nq157, P157_0, P157_1, P157_2, P157_3⟩ := hQ157
  have N157 := Fr.app N154 Nq157
  have g_x_157 : n0 ≤ x_157 := Nat.le_trans ZZ156 P157_1
  have ZZ159 : n0 ≤ T157.heap.size := Nat.le_trans ZZ156 P157_0.1
  have Fc160 := ((A150.keep P154_0).keep P157_0)
  have Fc161 := (P154_1.keep P157_0 nin0)
  have Fc162 := (P154_2.keep P157_0 nin0)
  have Fc163 := (P154_3.keep P157_0 nin0)
  have Ol164 := ((Ol153.keep P154_0 (allS g_b150 all0)).keep P157_0 all0)
  obtain ⟨_, T165, L165, X165, hQ165, st165⟩ := own_cI X157 hx hZ hw hown (b := b150) (W := 0) (rm_a1g l Z a0 hw [] b150 x_157 (0 : Int32) de kde T157.heap n0 ZZ159 Fc160 g_b150 Fc161 Fc162 Fc163 Ol164 S_DEFAULTCAPACITY_EMPTY_ELEMENTDATA V_de E_de (Ins.of_exa P157_2 (own_w hw 83 rfl))) (by decide) (by decide) (by decide) 49 rfl 50 rfl 51 rfl 52 rfl 53 rfl 54 rfl 55 rfl 56 rfl 57 rfl 6 rfl rfl Fc160 (g := (mkF m 106 #[oI p0, oI p1, oI p2, oI p3, oI p4, oI p5, oI u0, oI u1, oI u2, oI v0, oI v1, oI v2, oR b107, oR b150, oU, oU, oU, oU, oU, oU, oU, oU, oU, oU] [(.ref x_157), (.ref b150)])) rfl (by rw [hml]; rfl) (argsL := [(.ref x_157)]) (rest := []) (lenOf pd25 rfl) rfl (Nat.le_of_eq rfl) (hb hby at_106) rfl (cN := 8) rfl (by decide) (sN := 30) rfl (by decide)
  obtain ⟨el_165, kel_165, rfl, Nq165, P165_0, P165_1, P165_2, P165_3, P165_4, P165_5, P165_6, P165_7⟩ := hQ165
  have N165 := Fr.app N157 Nq165
  have g_el_165 : n0 ≤ el_165 := Nat.le_trans ZZ159 P165_1
  have ZZ167 : n0 ≤ T165.heap.size := Nat.le_trans ZZ159 P165_0.1
  have Fr168 : Fld Z T165.heap b150 kABL "modCount" "I" (.int 1) := (own_fi (by decide) P165_4)
  obtain ⟨_, T169, L169, X169, hQ169, st169⟩ := own_cS X165 hx hZ hw hown (W := 1) (rmm6 l Z a0 hw [] (own_i2 v1) T165.heap n0 ZZ167 ) (by decide) (by decide) (by decide) 30 rfl 31 rfl 32 rfl 33 rfl rfl (g := (mkF m 117 #[oI p0, oI p1, oI p2, oI p3, oI p4, oI p5, oI u0, oI u1, oI u2, oI v0, oI v1, oI v2, oR b107, oR b150, oU, oU, oU, oU, oU, oU, oU, oU, oU, oU] [(.double (own_i2 v1)), (.ref b150)])) rfl (by rw [hml]; rfl) (argsL := [(.double (own_i2 v1))]) (rest := [(.ref b150)]) (lenOf pd31 rfl) rfl (Nat.le_of_eq rfl) (hb hby at_117) rfl (cN := 9) rfl (by decide) (sN := 31) rfl (by decide)
  obtain ⟨x_169, rfl, Nq169, P169_0, P169_1, P169_2, P169_3⟩ := hQ169
  have N169 := Fr.app N165 Nq169
  have g_x_169 : n0 ≤ x_169 := Nat.le_trans ZZ167 P169_1
  have ZZ171 : n0 ≤ T169.heap.size := Nat.le_trans ZZ167 P169_0.1
  have Fc172 := ((Fc160.keep P165_0).keep P169_0)
  have Fc173 := (P165_2.keep P169_0 nin0)
  have Fc174 := (P165_3.keep P169_0 nin0)
  have Fc175 := (P165_5.keep P169_0 nin0)
  obtain ⟨_, T176, L176, X176, hQ176, st176⟩ := own_cI X169 hx hZ hw hown (b := b150) (W := 0) (rm_a1n l Z a0 hw [] b150 x_169 (1 : Int32) el_165 kel_165 (1 : Int32) (10 : Int32) 1 [(.ref x_157), .null, .null, .null] T169.heap n0 ZZ171 Fc172 g_b150 g_el_165 Fc173 Fc174 (Fr168.keep P169_0 nin0) Fc175 (P165_6.keep P169_0) P165_7 (Ins.of_exa P169_2 (own_w hw 83 rfl)) (by decide) (⟨by decide, by decide⟩) (by decide) (Nat.le_of_ble_eq_true rfl)) (by decide) (by decide) (by decide) 49 rfl 50 rfl 51 rfl 52 rfl 53 rfl 54 rfl 55 rfl 56 rfl 57 rfl 6 rfl rfl Fc172 (g := (mkF m 120 #[oI p0, oI p1, oI p2, oI p3, oI p4, oI p5, oI u0, oI u1, oI u2, oI v0, oI v1, oI v2, oR b107, oR b150, oU, oU, oU, oU, oU, oU, oU, oU, oU, oU] [(.ref x_169), (.ref b150)])) rfl (by rw [hml]; rfl) (argsL := [(.ref x_169)]) (rest := []) (lenOf pd25 rfl) rfl (Nat.le_of_eq rfl) (hb hby at_120) rfl (cN := 9) rfl (by decide) (sN := 31) rfl (by decide)
  obtain ⟨rfl, Nq176, P176_0, P176_1, P176_2, P176_3, P176_4⟩ := hQ176
  have N176 := Fr.app N169 Nq176
  have ZZ178 : n0 ≤ T176.heap.size := Nat.le_trans ZZ171 P176_0.1
  have Vr179 : Arv Z T176.heap el_165 kel_165 (.object kOB) (10 : Int32) [(.ref x_157), (.ref x_169), .null, .null] .null := P176_4
  have Fr180 : Fld Z T176.heap b150 kAL "size" "I" (.int 2) := (own_fi (by decide) P176_2)
  have Fr181 : Fld Z T176.heap b150 kABL "modCount" "I" (.int 2) := (own_fi (by decide) P176_3)
  obtain ⟨_, T182, L182, X182, hQ182, st182⟩ := own_cS X176 hx hZ hw hown (W := 1) (rmm6 l Z a0 hw [] (own_i2 v2) T176.heap n0 ZZ178 ) (by decide) (by decide) (by decide) 30 rfl 31 rfl 32 rfl 33 rfl rfl (g := (mkF m 131 #[oI p0, oI p1, oI p2, oI p3, oI p4, oI p5, oI u0, oI u1, oI u2, oI v0, oI v1, oI v2, oR b107, oR b150, oU, oU, oU, oU, oU, oU, oU, oU, oU, oU] [(.double (own_i2 v2)), (.ref b150)])) rfl (by rw [hml]; rfl) (argsL := [(.double (own_i2 v2))]) (rest := [(.ref b150)]) (lenOf pd31 rfl) rfl (Nat.le_of_eq rfl) (hb hby at_131) rfl (cN := 10) rfl (by decide) (sN := 32) rfl (by decide)
  obtain ⟨x_182, rfl, Nq182, P182_0, P182_1, P182_2, P182_3⟩ := hQ182
  have N182 := Fr.app N176 Nq182
  have g_x_182 : n0 ≤ x_182 := Nat.le_trans ZZ178 P182_1
  have ZZ184 : n0 ≤ T182.heap.size := Nat.le_trans ZZ178 P182_0.1
  have Fc185 := ((Fc172.keep P176_0).keep P182_0)
  have Fc186 := (P176_1.keep P182_0 nin0)
  have Fc187 := (((P165_6.keep P169_0).keep P176_0).keep P182_0)
  obtain ⟨_, T188, L188, X188, hQ188, st188⟩ := own_cI X182 hx hZ hw hown (b := b150) (W := 0) (rm_a1n l Z a0 hw [] b150 x_182 (2 : Int32) el_165 kel_165 (2 : Int32) (10 : Int32) 2 [(.ref x_157), (.ref x_169), .null, .null] T182.heap n0 ZZ184 Fc185 g_b150 g_el_165 Fc186 (Fr180.keep P182_0 nin0) (Fr181.keep P182_0 nin0) (Vr179.keep P182_0 nin0) Fc187 P165_7 (Ins.of_exa P182_2 (own_w hw 83 rfl)) (by decide) (⟨by decide, by decide⟩) (by decide) (Nat.le_of_ble_eq_true rfl)) (by decide) (by decide) (by decide) 49 rfl 50 rfl 51 rfl 52 rfl 53 rfl 54 rfl 55 rfl 56 rfl 57 rfl 6 rfl rfl Fc185 (g := (mkF m 134 #[oI p0, oI p1, oI p2, oI p3, oI p4, oI p5, oI u0, oI u1, oI u2, oI v0, oI v1, oI v2, oR b107, oR b150, oU, oU, oU, oU, oU, oU, oU, oU, oU, oU] [(.ref x_182), (.ref b150)])) rfl (by rw [hml]; rfl) (argsL := [(.ref x_182)]) (rest := []) (lenOf pd25 rfl) rfl (Nat.le_of_eq rfl) (hb hby at_134) rfl (cN := 10) rfl (by decide) (sN := 32) rfl (by decide)
  obtain ⟨rfl, Nq188, P188_0, P188_1, P188_2, P188_3, P188_4⟩ := hQ188
  have N188 := Fr.app N182 Nq188
  have ZZ190 : n0 ≤ T188.heap.size := Nat.le_trans ZZ184 P188_0.1
  have Vr191 : Arv Z T188.heap el_165 kel_165 (.object kOB) (10 : Int32) [(.ref x_157), (.ref x_169), (.ref x_182), .null] .null := P188_4
  have Fr192 : Fld Z T188.heap b150 kAL "size" "I" (.int 3) := (own_fi (by decide) P188_2)
  have Fr193 : Fld Z T188.heap b150 kABL "modCount" "I" (.int 3) := (own_fi (by decide) P188_3)
  obtain ⟨T194, h194, X194, e194, E194, A194, D194, -, st194⟩ := newO X188 hx hZ hown (own_w hw 4 rfl) (own_w hw 5 rfl) (own_w hw 6 rfl) rfl (g := (mkF m 140 #[oI p0, oI p1, oI p2, oI p3, oI p4, oI p5, oI u0, oI u1, oI u2, oI v0, oI v1, oI v2, oR b107, oR b150, oU, oU, oU, oU, oU, oU, oU, oU, oU, oU] [])) rfl (hb hby at_140) (by decide) (by decide)
  obtain ⟨b194, g194⟩ : ∃ z, z = T188.heap.size := ⟨_, rfl⟩
  rw [← g194] at A194 D194 st194
  have g_b194 : n0 ≤ b194 := Nat.le_trans ZZ190 (Nat.le_of_eq g194.symm)
  have ZZ196 : n0 ≤ h194.size := Nat.le_trans ZZ190 E194.1
  have F_modCount_b194 : Fld Z h194 b194 kABL "modCount" "I" (.int 0) := D194 (Or.inl (own_w hw 26 rfl)) (ty := .int) (by decide)
  have F_elementData_b194 : Fld Z h194 b194 kAL "elementData" kOA .null := D194 (Or.inl (own_w hw 29 rfl)) (ty := (.array (.object kOB))) (by decide)
  have F_size_b194 : Fld Z h194 b194 kAL "size" "I" (.int 0) := D194 (Or.inl (own_w hw 61 rfl)) (ty := .int) (by decide)
  have Ol197 := ((((((Ol164.keep P165_0 (allS g_b150 all0)).keep P169_0 all0).keep P176_0 (allS g_b150 (allS g_el_165 all0))).keep P182_0 all0).keep P188_0 (allS g_b150 (allS g_el_165 all0))).ext E194)
  obtain ⟨_, T198, L198, X198, hQ198, st198⟩ := own_cC X194 hx hZ hw hown (b := b194) (W := 1) (rmm2 l Z a0 hw [] b194 .null (.int 0) (.int 0) de h194 n0 ZZ196 A194 g_b194 F_elementData_b194 F_size_b194 F_modCount_b194 Ol197 S_DEFAULTCAPACITY_EMPTY_ELEMENTDATA) (by decide) (by decide) (by decide) rfl 7 rfl 8 rfl 9 rfl 6 rfl e194 (g := (mkF m 144 #[oI p0, oI p1, oI p2, oI p3, oI p4, oI p5, oI u0, oI u1, oI u2, oI v0, oI v1, oI v2, oR b107, oR b150, oU, oU, oU, oU, oU, oU, oU, oU, oU, oU] [(.ref b194), (.ref b194)])) rfl (by rw [hml]; rfl) (argsL := []) (rest := [(.ref b194)]) (lenOf pd0 rfl) rfl (Nat.le_of_eq rfl) (hb hby at_144) rfl (cN := 11) rfl (by decide) (sN := 35) rfl (by decide)
  obtain ⟨rfl, Nq198, P198_0, P198_1, P198_2, P198_3⟩ := hQ198
  have N198 := Fr.app N188 Nq198
  have ZZ200 : n0 ≤ T198.heap.size := Nat.le_trans ZZ196 P198_0.1
  have Ol201 := (Ol197.keep P198_0 (allS g_b194 all0))
  have Fc202 := (((((((((((Fc141.keep P144_0).ext E150).keep P154_0).keep P157_0).keep P165_0).keep P169_0).keep P176_0).keep P182_0).keep P188_0).ext E194).keep P198_0)
  obtain ⟨_, T203, L203, X203, hQ203, st203⟩ := own_cI X198 hx hZ hw hown (b := b194) (W := 0) (rm_a1g l Z a0 hw [] b194 b107 (0 : Int32) de kde T198.heap n0 ZZ200 (A194.keep P198_0) g_b194 P198_1 P198_2 P198_3 Ol201 S_DEFAULTCAPACITY_EMPTY_ELEMENTDATA V_de E_de (Ins.of_exa Fc202 (own_w hw 84 rfl))) (by decide) (by decide) (by decide) 49 rfl 50 rfl 51 rfl 52 rfl 53 rfl 54 rfl 55 rfl 56 rfl 57 rfl 6 rfl rfl (A194.keep P198_0) (g := (mkF m 153 #[oI p0, oI p1, oI p2, oI p3, oI p4, oI p5, oI u0, oI u1, oI u2, oI v0, oI v1, oI v2, oR b107, oR b150, oR b194, oU, oU, oU, oU, oU, oU, oU, oU, oU] [(.ref b107), (.ref b194)])) rfl (by rw [hml]; rfl) (argsL := [(.ref b107)]) (rest := []) (lenOf pd25 rfl) rfl (Nat.le_of_eq rfl) (hb hby at_153) rfl (cN := 12) rfl (by decide) (sN := 45) rfl (by decide)
  obtain ⟨el_203, kel_203, rfl, Nq203, P203_0, P203_1, P203_2, P203_3, P203_4, P203_5, P203_6, P203_7⟩ := hQ203
  have N203 := Fr.app N198 Nq203
  have g_el_203 : n0 ≤ el_203 := Nat.le_trans ZZ200 P203_1
  have ZZ205 : n0 ≤ T203.heap.size := Nat.le_trans ZZ200 P203_0.1
  have Fr206 : Fld Z T203.heap b194 kABL "modCount" "I" (.int 1) := (own_fi (by decide) P203_4)
  have Fc207 := ((A194.keep P198_0).keep P203_0)
  have Fc208 := ((((Fc185.keep P188_0).ext E194).keep P198_0).keep P203_0)
  obtain ⟨_, T209, L209, X209, hQ209, st209⟩ := own_cI X203 hx hZ hw hown (b := b194) (W := 0) (rm_a1n l Z a0 hw [] b194 b150 (1 : Int32) el_203 kel_203 (1 : Int32) (10 : Int32) 1 [(.ref b107), .null, .null, .null] T203.heap n0 ZZ205 Fc207 g_b194 g_el_203 P203_2 P203_3 Fr206 P203_5 P203_6 P203_7 (Ins.of_exa Fc208 (own_w hw 84 rfl)) (by decide) (⟨by decide, by decide⟩) (by decide) (Nat.le_of_ble_eq_true rfl)) (by decide) (by decide) (by decide) 49 rfl 50 rfl 51 rfl 52 rfl 53 rfl 54 rfl 55 rfl 56 rfl 57 rfl 6 rfl rfl Fc207 (g := (mkF m 163 #[oI p0, oI p1, oI p2, oI p3, oI p4, oI p5, oI u0, oI u1, oI u2, oI v0, oI v1, oI v2, oR b107, oR b150, oR b194, oU, oU, oU, oU, oU, oU, oU, oU, oU] [(.ref b150), (.ref b194)])) rfl (by rw [hml]; rfl) (argsL := [(.ref b150)]) (rest := []) (lenOf pd25 rfl) rfl (Nat.le_of_eq rfl) (hb hby at_163) rfl (cN := 12) rfl (by decide) (sN := 45) rfl (by decide)
  obtain ⟨rfl, Nq209, P209_0, P209_1, P209_2, P209_3, P209_4⟩ := hQ209
  have N209 := Fr.app N203 Nq209
  have ZZ211 : n0 ≤ T209.heap.size := Nat.le_trans ZZ205 P209_0.1
  have Vr212 : Arv Z T209.heap el_203 kel_203 (.object kOB) (10 : Int32) [(.ref b107), (.ref b150), .null, .null] .null := P209_4
  have Fr213 : Fld Z T209.heap b194 kAL "size" "I" (.int 2) := (own_fi (by decide) P209_2)
  have Fr214 : Fld Z T209.heap b194 kABL "modCount" "I" (.int 2) := (own_fi (by decide) P209_3)
  obtain ⟨T215, h215, X215, e215, E215, A215, D215, -, st215⟩ := newO X209 hx hZ hown (own_w hw 85 rfl) (own_w hw 86 rfl) (own_w hw 87 rfl) rfl (g := (mkF m 169 #[oI p0, oI p1, oI p2, oI p3, oI p4, oI p5, oI u0, oI u1, oI u2, oI v0, oI v1, oI v2, oR b107, oR b150, oR b194, oU, oU, oU, oU, oU, oU, oU, oU, oU] [])) rfl (hb hby at_169) (by decide) (by decide)
  obtain ⟨b215, g215⟩ : ∃ z, z = T209.heap.size := ⟨_, rfl⟩
  rw [← g215] at A215 D215 st215
  have g_b215 : n0 ≤ b215 := Nat.le_trans ZZ211 (Nat.le_of_eq g215.symm)
  have ZZ217 : n0 ≤ h215.size := Nat.le_trans ZZ211 E215.1
  have F_name_b215 : Fld Z h215 b215 kMO "name" "Ljava/lang/String;" .null := D215 (Or.inr (own_w hw 315 rfl)) (ty := (.object "java/lang/String")) (by decide)
  have F_vectors_b215 : Fld Z h215 b215 kMO "vectors" "Ljava/util/List;" .null := D215 (Or.inr (own_w hw 317 rfl)) (ty := (.object "java/util/List")) (by decide)
  obtain ⟨b218, T218, h218, k218, X218, e218, E218, hS218, hk218, hZ218, how218, st218⟩ := ldcS (s := s) (vm0 := s.vm) X215 hx hZ hown (own_w hw 88 rfl) (own_str hw) e215 hS0 (Nat.zero_le _) (g := (mkF m 173 #[oI p0, oI p1, oI p2, oI p3, oI p4, oI p5, oI u0, oI u1, oI u2, oI v0, oI v1, oI v2, oR b107, oR b150, oR b194, oU, oU, oU, oU, oU, oU, oU, oU, oU] [(.ref b215), (.ref b215)])) rfl (hb hby at_173) (n := 4) (by decide) (by decide) (by decide) (by decide)
  have ZZ219 : n0 ≤ h218.size := Nat.le_trans ZZ217 E218.1
  have Fc220 := (F_vectors_b215.ext E218)
  have Fc221 := (((Fc207.keep P209_0).ext E215).ext E218)
  have Fc222 := ((P209_1.ext E215).ext E218)
  have Fc223 := ((Fr213.ext E215).ext E218)
  have Fc224 := ((Fr214.ext E215).ext E218)
  have Fc225 := ((Vr212.ext E215).ext E218)
  have Fc226 := (((P203_6.keep P209_0).ext E215).ext E218)
  have Fc227 := ((((Fc202.keep P203_0).keep P209_0).ext E215).ext E218)
  have nq228 : b107 ≠ b150 := (Nat.ne_of_lt (Nat.lt_of_lt_of_le P144_1.lt (Nat.le_of_eq g150.symm)))
  have nq229 : b107 ≠ el_165 := (Nat.ne_of_lt (Nat.lt_of_lt_of_le (((P144_1.ext E150).keep P154_0 (ninS nq228 nin0)).keep P157_0 nin0).lt P165_1))
  have nq230 : b107 ≠ b194 := (Nat.ne_of_lt (Nat.lt_of_lt_of_le ((((((((P144_1.ext E150).keep P154_0 (ninS nq228 nin0)).keep P157_0 nin0).keep P165_0 (ninS nq228 nin0)).keep P169_0 nin0).keep P176_0 (ninS nq228 (ninS nq229 nin0))).keep P182_0 nin0).keep P188_0 (ninS nq228 (ninS nq229 nin0))).lt (Nat.le_of_eq g194.symm)))
  have nq231 : b107 ≠ el_203 := (Nat.ne_of_lt (Nat.lt_of_lt_of_le Fc202.lt P203_1))
  have Fc232 := ((((((((((((((P144_1.ext E150).keep P154_0 (ninS nq228 nin0)).keep P157_0 nin0).keep P165_0 (ninS nq228 nin0)).keep P169_0 nin0).keep P176_0 (ninS nq228 (ninS nq229 nin0))).keep P182_0 nin0).keep P188_0 (ninS nq228 (ninS nq229 nin0))).ext E194).keep P198_0 (ninS nq230 nin0)).keep P203_0 (ninS nq230 nin0)).keep P209_0 (ninS nq230 (ninS nq231 nin0))).ext E215).ext E218)
  have Fc233 := ((((((((((((((Fr148.ext E150).keep P154_0 (ninS nq228 nin0)).keep P157_0 nin0).keep P165_0 (ninS nq228 nin0)).keep P169_0 nin0).keep P176_0 (ninS nq228 (ninS nq229 nin0))).keep P182_0 nin0).keep P188_0 (ninS nq228 (ninS nq229 nin0))).ext E194).keep P198_0 (ninS nq230 nin0)).keep P203_0 (ninS nq230 nin0)).keep P209_0 (ninS nq230 (ninS nq231 nin0))).ext E215).ext E218)
  have Fc234 := ((((((((((((((Fr149.ext E150).keep P154_0 (ninS nq228 nin0)).keep P157_0 nin0).keep P165_0 (ninS nq228 nin0)).keep P169_0 nin0).keep P176_0 (ninS nq228 (ninS nq229 nin0))).keep P182_0 nin0).keep P188_0 (ninS nq228 (ninS nq229 nin0))).ext E194).keep P198_0 (ninS nq230 nin0)).keep P203_0 (ninS nq230 nin0)).keep P209_0 (ninS nq230 (ninS nq231 nin0))).ext E215).ext E218)
  have nq235 : el_121 ≠ b150 := (Nat.ne_of_lt (Nat.lt_of_lt_of_le Vr147.lt (Nat.le_of_eq g150.symm)))
  have nq236 : el_121 ≠ el_165 := (Nat.ne_of_lt (Nat.lt_of_lt_of_le (((Vr147.ext E150).keep P154_0 (ninS nq235 nin0)).keep P157_0 nin0).lt P165_1))
  have nq237 : el_121 ≠ b194 := (Nat.ne_of_lt (Nat.lt_of_lt_of_le ((((((((Vr147.ext E150).keep P154_0 (ninS nq235 nin0)).keep P157_0 nin0).keep P165_0 (ninS nq235 nin0)).keep P169_0 nin0).keep P176_0 (ninS nq235 (ninS nq236 nin0))).keep P182_0 nin0).keep P188_0 (ninS nq235 (ninS nq236 nin0))).lt (Nat.le_of_eq g194.symm)))
  have nq238 : el_121 ≠ el_203 := (Nat.ne_of_lt (Nat.lt_of_lt_of_le ((((((((((Vr147.ext E150).keep P154_0 (ninS nq235 nin0)).keep P157_0 nin0).keep P165_0 (ninS nq235 nin0)).keep P169_0 nin0).keep P176_0 (ninS nq235 (ninS nq236 nin0))).keep P182_0 nin0).keep P188_0 (ninS nq235 (ninS nq236 nin0))).ext E194).keep P198_0 (ninS nq237 nin0)).lt P203_1))
  have Fc239 := ((((((((((((((Vr147.ext E150).keep P154_0 (ninS nq235 nin0)).keep P157_0 nin0).keep P165_0 (ninS nq235 nin0)).keep P169_0 nin0).keep P176_0 (ninS nq235 (ninS nq236 nin0))).keep P182_0 nin0).keep P188_0 (ninS nq235 (ninS nq236 nin0))).ext E194).keep P198_0 (ninS nq237 nin0)).keep P203_0 (ninS nq237 nin0)).keep P209_0 (ninS nq237 (ninS nq238 nin0))).ext E215).ext E218)
  have Fc240 := (((((((((((((((Fc143.keep P144_0).ext E150).keep P154_0).keep P157_0).keep P165_0).keep P169_0).keep P176_0).keep P182_0).keep P188_0).ext E194).keep P198_0).keep P203_0).keep P209_0).ext E215).ext E218)
  have Fc241 := (((Fc208.keep P209_0).ext E215).ext E218)
  have nq242 : b150 ≠ b194 := (Nat.ne_of_lt (Nat.lt_of_lt_of_le P188_1.lt (Nat.le_of_eq g194.symm)))
  have nq243 : b150 ≠ el_203 := (Nat.ne_of_lt (Nat.lt_of_lt_of_le ((P188_1.ext E194).keep P198_0 (ninS nq242 nin0)).lt P203_1))
  have Fc244 := ((((((P188_1.ext E194).keep P198_0 (ninS nq242 nin0)).keep P203_0 (ninS nq242 nin0)).keep P209_0 (ninS nq242 (ninS nq243 nin0))).ext E215).ext E218)
  have Fc245 := ((((((Fr192.ext E194).keep P198_0 (ninS nq242 nin0)).keep P203_0 (ninS nq242 nin0)).keep P209_0 (ninS nq242 (ninS nq243 nin0))).ext E215).ext E218)
  have Fc246 := ((((((Fr193.ext E194).keep P198_0 (ninS nq242 nin0)).keep P203_0 (ninS nq242 nin0)).keep P209_0 (ninS nq242 (ninS nq243 nin0))).ext E215).ext E218)
  have nq247 : el_165 ≠ b194 := (Nat.ne_of_lt (Nat.lt_of_lt_of_le Vr191.lt (Nat.le_of_eq g194.symm)))
  have nq248 : el_165 ≠ el_203 := (Nat.ne_of_lt (Nat.lt_of_lt_of_le ((Vr191.ext E194).keep P198_0 (ninS nq247 nin0)).lt P203_1))
  have Fc249 := ((((((Vr191.ext E194).keep P198_0 (ninS nq247 nin0)).keep P203_0 (ninS nq247 nin0)).keep P209_0 (ninS nq247 (ninS nq248 nin0))).ext E215).ext E218)
  have Fc250 := (((((((Fc187.keep P188_0).ext E194).keep P198_0).keep P203_0).keep P209_0).ext E215).ext E218)
  have Fc251 := (((((((((((((((((((P113_2.keep P121_0).keep P125_0).keep P132_0).keep P138_0).keep P144_0).ext E150).keep P154_0).keep P157_0).keep P165_0).keep P169_0).keep P176_0).keep P182_0).keep P188_0).ext E194).keep P198_0).keep P203_0).keep P209_0).ext E215).ext E218)
  have nq252 : b107 ≠ x_113 := (Nat.ne_of_lt (Nat.lt_of_lt_of_le P110_1.lt P113_1))
  have nq253 : x_113 ≠ el_121 := (Nat.ne_of_lt (Nat.lt_of_lt_of_le P113_2.lt P121_1))
  have nq254 : x_113 ≠ b150 := (Nat.ne_of_lt (Nat.lt_of_lt_of_le (((((P113_2.keep P121_0).keep P125_0).keep P132_0).keep P138_0).keep P144_0).lt (Nat.le_of_eq g150.symm)))
  have nq255 : x_113 ≠ el_165 := (Nat.ne_of_lt (Nat.lt_of_lt_of_le ((((((((P113_2.keep P121_0).keep P125_0).keep P132_0).keep P138_0).keep P144_0).ext E150).keep P154_0).keep P157_0).lt P165_1))
  have nq256 : x_113 ≠ b194 := (Nat.ne_of_lt (Nat.lt_of_lt_of_le (((((((((((((P113_2.keep P121_0).keep P125_0).keep P132_0).keep P138_0).keep P144_0).ext E150).keep P154_0).keep P157_0).keep P165_0).keep P169_0).keep P176_0).keep P182_0).keep P188_0).lt (Nat.le_of_eq g194.symm)))
  have nq257 : x_113 ≠ el_203 := (Nat.ne_of_lt (Nat.lt_of_lt_of_le (((((((((((((((P113_2.keep P121_0).keep P125_0).keep P132_0).keep P138_0).keep P144_0).ext E150).keep P154_0).keep P157_0).keep P165_0).keep P169_0).keep P176_0).keep P182_0).keep P188_0).ext E194).keep P198_0).lt P203_1))
  have Fc258 := (((((((((((((((((((P113_3.keep P121_0 (ninS (Ne.symm nq252) nin0)).keep P125_0 nin0).keep P132_0 (ninS (Ne.symm nq252) (ninS nq253 nin0))).keep P138_0 nin0).keep P144_0 (ninS (Ne.symm nq252) (ninS nq253 nin0))).ext E150).keep P154_0 (ninS nq254 nin0)).keep P157_0 nin0).keep P165_0 (ninS nq254 nin0)).keep P169_0 nin0).keep P176_0 (ninS nq254 (ninS nq255 nin0))).keep P182_0 nin0).keep P188_0 (ninS nq254 (ninS nq255 nin0))).ext E194).keep P198_0 (ninS nq256 nin0)).keep P203_0 (ninS nq256 nin0)).keep P209_0 (ninS nq256 (ninS nq257 nin0))).ext E215).ext E218)
  have Fc259 := (((((((((((((((((P125_2.keep P132_0).keep P138_0).keep P144_0).ext E150).keep P154_0).keep P157_0).keep P165_0).keep P169_0).keep P176_0).keep P182_0).keep P188_0).ext E194).keep P198_0).keep P203_0).keep P209_0).ext E215).ext E218)
  have nq260 : b107 ≠ x_125 := (Nat.ne_of_lt (Nat.lt_of_lt_of_le P121_4.lt P125_1))
  have nq261 : el_121 ≠ x_125 := (Nat.ne_of_lt (Nat.lt_of_lt_of_le P121_6.lt P125_1))
  have nq262 : x_125 ≠ b150 := (Nat.ne_of_lt (Nat.lt_of_lt_of_le (((P125_2.keep P132_0).keep P138_0).keep P144_0).lt (Nat.le_of_eq g150.symm)))
  have nq263 : x_125 ≠ el_165 := (Nat.ne_of_lt (Nat.lt_of_lt_of_le ((((((P125_2.keep P132_0).keep P138_0).keep P144_0).ext E150).keep P154_0).keep P157_0).lt P165_1))
  have nq264 : x_125 ≠ b194 := (Nat.ne_of_lt (Nat.lt_of_lt_of_le (((((((((((P125_2.keep P132_0).keep P138_0).keep P144_0).ext E150).keep P154_0).keep P157_0).keep P165_0).keep P169_0).keep P176_0).keep P182_0).keep P188_0).lt (Nat.le_of_eq g194.symm)))
  have nq265 : x_125 ≠ el_203 := (Nat.ne_of_lt (Nat.lt_of_lt_of_le (((((((((((((P125_2.keep P132_0).keep P138_0).keep P144_0).ext E150).keep P154_0).keep P157_0).keep P165_0).keep P169_0).keep P176_0).keep P182_0).keep P188_0).ext E194).keep P198_0).lt P203_1))
  have Fc266 := (((((((((((((((((P125_3.keep P132_0 (ninS (Ne.symm nq260) (ninS (Ne.symm nq261) nin0))).keep P138_0 nin0).keep P144_0 (ninS (Ne.symm nq260) (ninS (Ne.symm nq261) nin0))).ext E150).keep P154_0 (ninS nq262 nin0)).keep P157_0 nin0).keep P165_0 (ninS nq262 nin0)).keep P169_0 nin0).keep P176_0 (ninS nq262 (ninS nq263 nin0))).keep P182_0 nin0).keep P188_0 (ninS nq262 (ninS nq263 nin0))).ext E194).keep P198_0 (ninS nq264 nin0)).keep P203_0 (ninS nq264 nin0)).keep P209_0 (ninS nq264 (ninS nq265 nin0))).ext E215).ext E218)
  have Fc267 := (((((((((((((((P138_2.keep P144_0).ext E150).keep P154_0).keep P157_0).keep P165_0).keep P169_0).keep P176_0).keep P182_0).keep P188_0).ext E194).keep P198_0).keep P203_0).keep P209_0).ext E215).ext E218)
  have nq268 : b107 ≠ x_138 := (Nat.ne_of_lt (Nat.lt_of_lt_of_le P132_2.lt P138_1))
  have nq269 : el_121 ≠ x_138 := (Nat.ne_of_lt (Nat.lt_of_lt_of_le P132_4.lt P138_1))
  have nq270 : x_138 ≠ b150 := (Nat.ne_of_lt (Nat.lt_of_lt_of_le (P138_2.keep P144_0).lt (Nat.le_of_eq g150.symm)))
  have nq271 : x_138 ≠ el_165 := (Nat.ne_of_lt (Nat.lt_of_lt_of_le ((((P138_2.keep P144_0).ext E150).keep P154_0).keep P157_0).lt P165_1))
  have nq272 : x_138 ≠ b194 := (Nat.ne_of_lt (Nat.lt_of_lt_of_le (((((((((P138_2.keep P144_0).ext E150).keep P154_0).keep P157_0).keep P165_0).keep P169_0).keep P176_0).keep P182_0).keep P188_0).lt (Nat.le_of_eq g194.symm)))
  have nq273 : x_138 ≠ el_203 := (Nat.ne_of_lt (Nat.lt_of_lt_of_le (((((((((((P138_2.keep P144_0).ext E150).keep P154_0).keep P157_0).keep P165_0).keep P169_0).keep P176_0).keep P182_0).keep P188_0).ext E194).keep P198_0).lt P203_1))
  have Fc274 := (((((((((((((((P138_3.keep P144_0 (ninS (Ne.symm nq268) (ninS (Ne.symm nq269) nin0))).ext E150).keep P154_0 (ninS nq270 nin0)).keep P157_0 nin0).keep P165_0 (ninS nq270 nin0)).keep P169_0 nin0).keep P176_0 (ninS nq270 (ninS nq271 nin0))).keep P182_0 nin0).keep P188_0 (ninS nq270 (ninS nq271 nin0))).ext E194).keep P198_0 (ninS nq272 nin0)).keep P203_0 (ninS nq272 nin0)).keep P209_0 (ninS nq272 (ninS nq273 nin0))).ext E215).ext E218)
  have Fc275 := (((((((((((P157_2.keep P165_0).keep P169_0).keep P176_0).keep P182_0).keep P188_0).ext E194).keep P198_0).keep P203_0).keep P209_0).ext E215).ext E218)
  have nq276 : b150 ≠ x_157 := (Nat.ne_of_lt (Nat.lt_of_lt_of_le P154_1.lt P157_1))
  have nq277 : x_157 ≠ el_165 := (Nat.ne_of_lt (Nat.lt_of_lt_of_le P157_2.lt P165_1))
  have nq278 : x_157 ≠ b194 := (Nat.ne_of_lt (Nat.lt_of_lt_of_le (((((P157_2.keep P165_0).keep P169_0).keep P176_0).keep P182_0).keep P188_0).lt (Nat.le_of_eq g194.symm)))
  have nq279 : x_157 ≠ el_203 := (Nat.ne_of_lt (Nat.lt_of_lt_of_le (((((((P157_2.keep P165_0).keep P169_0).keep P176_0).keep P182_0).keep P188_0).ext E194).keep P198_0).lt P203_1))
  have Fc280 := (((((((((((P157_3.keep P165_0 (ninS (Ne.symm nq276) nin0)).keep P169_0 nin0).keep P176_0 (ninS (Ne.symm nq276) (ninS nq277 nin0))).keep P182_0 nin0).keep P188_0 (ninS (Ne.symm nq276) (ninS nq277 nin0))).ext E194).keep P198_0 (ninS nq278 nin0)).keep P203_0 (ninS nq278 nin0)).keep P209_0 (ninS nq278 (ninS nq279 nin0))).ext E215).ext E218)
  have Fc281 := (((((((((P169_2.keep P176_0).keep P182_0).keep P188_0).ext E194).keep P198_0).keep P203_0).keep P209_0).ext E215).ext E218)
  have nq282 : b150 ≠ x_169 := (Nat.ne_of_lt (Nat.lt_of_lt_of_le P165_4.lt P169_1))
  have nq283 : el_165 ≠ x_169 := (Nat.ne_of_lt (Nat.lt_of_lt_of_le P165_6.lt P169_1))
  have nq284 : x_169 ≠ b194 := (Nat.ne_of_lt (Nat.lt_of_lt_of_le (((P169_2.keep P176_0).keep P182_0).keep P188_0).lt (Nat.le_of_eq g194.symm)))
  have nq285 : x_169 ≠ el_203 := (Nat.ne_of_lt (Nat.lt_of_lt_of_le (((((P169_2.keep P176_0).keep P182_0).keep P188_0).ext E194).keep P198_0).lt P203_1))
  have Fc286 := (((((((((P169_3.keep P176_0 (ninS (Ne.symm nq282) (ninS (Ne.symm nq283) nin0))).keep P182_0 nin0).keep P188_0 (ninS (Ne.symm nq282) (ninS (Ne.symm nq283) nin0))).ext E194).keep P198_0 (ninS nq284 nin0)).keep P203_0 (ninS nq284 nin0)).keep P209_0 (ninS nq284 (ninS nq285 nin0))).ext E215).ext E218)
  have Fc287 := (((((((P182_2.keep P188_0).ext E194).keep P198_0).keep P203_0).keep P209_0).ext E215).ext E218)
  have nq288 : b150 ≠ x_182 := (Nat.ne_of_lt (Nat.lt_of_lt_of_le P176_2.lt P182_1))
  have nq289 : el_165 ≠ x_182 := (Nat.ne_of_lt (Nat.lt_of_lt_of_le P176_4.lt P182_1))
  have nq290 : x_182 ≠ b194 := (Nat.ne_of_lt (Nat.lt_of_lt_of_le (P182_2.keep P188_0).lt (Nat.le_of_eq g194.symm)))
  have nq291 : x_182 ≠ el_203 := (Nat.ne_of_lt (Nat.lt_of_lt_of_le (((P182_2.keep P188_0).ext E194).keep P198_0).lt P203_1))
  have Fc292 := (((((((P182_3.keep P188_0 (ninS (Ne.symm nq288) (ninS (Ne.symm nq289) nin0))).ext E194).keep P198_0 (ninS nq290 nin0)).keep P203_0 (ninS nq290 nin0)).keep P209_0 (ninS nq290 (ninS nq291 nin0))).ext E215).ext E218)
  have Ol293 := ((((Ol201.keep P203_0 (allS g_b194 all0)).keep P209_0 (allS g_b194 (allS g_el_203 all0))).ext E215).ext E218)
  obtain ⟨_, T294, L294, Xr294, hSr294, hgr294, hQ294, st294⟩ := own_cCS X218 hx hZ218 hw how218 (b := b215) (W := 1) (rmm14 l Z a0 hw [] b215 b218 b194 .null .null el_203 b107 b150 el_121 el_165 x_113 x_125 x_138 x_157 x_169 x_182 kel_203 kel_121 kel_165 (own_i2 u0) (own_i2 u1) (own_i2 u2) (own_i2 v0) (own_i2 v1) (own_i2 v2) mr h218 n0 ZZ219 (A215.ext E218) g_b215 (F_name_b215.ext E218) Fc220 Fc221 Fc222 Fc223 Fc224 Fc225 Fc226 Fc227 Fc232 Fc233 Fc234 Fc239 Fc240 Fc241 Fc244 Fc245 Fc246 Fc249 Fc250 Fc251 Fc258 Fc259 Fc266 Fc267 Fc274 Fc275 Fc280 Fc281 Fc286 Fc287 Fc292 Ol293 M_mr (own_inn u0) (own_ifi u0) (own_inn u1) (own_ifi u1) (own_inn u2) (own_ifi u2) (own_inn v0) (own_ifi v0) (own_inn v1) (own_ifi v1) (own_inn v2) (own_ifi v2)) (by decide) (by decide) (by decide) rfl 96 rfl 97 rfl 98 rfl 87 rfl e218 (g := (mkF m 177 #[oI p0, oI p1, oI p2, oI p3, oI p4, oI p5, oI u0, oI u1, oI u2, oI v0, oI v1, oI v2, oR b107, oR b150, oR b194, oU, oU, oU, oU, oU, oU, oU, oU, oU] [(.ref b194), (.ref b218), (.ref b215), (.ref b215)])) rfl (by rw [hml]; rfl) (argsL := [(.ref b218), (.ref b194)]) (rest := [(.ref b215)]) (lenOf pd32 rfl) rfl (Nat.le_of_eq rfl) (hb hby at_177) rfl (cN := 30) rfl (by decide) (sN := 112) rfl (by decide)
  obtain ⟨X294, hS294⟩ := Stand.againW Xr294 hS218 hSr294 (Nat.le_trans (by rw [e218]; exact hk218) hgr294)
  have hZ294 : Z.Warmed39 (s.setVm T294.vm).vm := State.Warmed39.trans (t := s.setVm T218.vm) hZ218 hSr294.1
  have how294 : (s.setVm T294.vm).vm.findClass "com/example/matchwright/matchwright/core/InstanceVectorsComparePinLaw" = some m.cls := by rw [show (s.setVm T294.vm).vm = T294.vm from rfl, hSr294.1.alike.findClass]; exact how218
  obtain ⟨LL_294, NN0_294, NN1_294, A0_294, A1_294, kA0_294, kA1_294, rfl, Nq294, P294_0, P294_1, P294_2, P294_3, P294_4, P294_5, P294_6, P294_7, P294_8, P294_9, P294_10, P294_11, P294_12, P294_13, P294_14, P294_15, P294_16, P294_17, P294_18, P294_19, P294_20⟩ := hQ294
  have N294 := Fr.app N209 Nq294
  have g_LL_294 : n0 ≤ LL_294 := Nat.le_trans ZZ219 P294_1
  have g_NN0_294 : n0 ≤ NN0_294 := Nat.le_trans ZZ219 P294_2
  have g_NN1_294 : n0 ≤ NN1_294 := Nat.le_trans ZZ219 P294_3
  have g_A0_294 : n0 ≤ A0_294 := Nat.le_trans ZZ219 P294_4
  have g_A1_294 : n0 ≤ A1_294 := Nat.le_trans ZZ219 P294_5
  have ZZ295 : n0 ≤ T294.heap.size := Nat.le_trans ZZ219 P294_0.1
  obtain ⟨T296, h296, X296, e296, E296, A296, D296, -, st296⟩ := newO X294 hx hZ294 how294 (own_w hw 4 rfl) (own_w hw 5 rfl) (own_w hw 6 rfl) rfl (g := (mkF m 182 #[oI p0, oI p1, oI p2, oI p3, oI p4, oI p5, oI u0, oI u1, oI u2, oI v0, oI v1, oI v2, oR b107, oR b150, oR b194, oR b215, oU, oU, oU, oU, oU, oU, oU, oU] [])) rfl (hb hby at_182) (by decide) (by decide)
  obtain ⟨b296, g296⟩ : ∃ z, z = T294.heap.size := ⟨_, rfl⟩
  rw [← g296] at A296 D296 st296
  have g_b296 : n0 ≤ b296 := Nat.le_trans ZZ295 (Nat.le_of_eq g296.symm)
  have SK297 := Nat.le_trans (Nat.le_refl _) E296.1
  have ZZ298 : n0 ≤ h296.size := Nat.le_trans ZZ295 E296.1
  have F_modCount_b296 : Fld Z h296 b296 kABL "modCount" "I" (.int 0) := D296 (Or.inl (own_w hw 26 rfl)) (ty := .int) (by decide)
  have F_elementData_b296 : Fld Z h296 b296 kAL "elementData" kOA .null := D296 (Or.inl (own_w hw 29 rfl)) (ty := (.array (.object kOB))) (by decide)
  have F_size_b296 : Fld Z h296 b296 kAL "size" "I" (.int 0) := D296 (Or.inl (own_w hw 61 rfl)) (ty := .int) (by decide)
  have Ol299 := ((Ol293.keep P294_0 (allS g_b215 all0)).ext E296)
  obtain ⟨_, T300, L300, X300, hQ300, st300⟩ := own_cC X296 hx hZ294 hw how294 (b := b296) (W := 1) (rmm2 l Z a0 hw [] b296 .null (.int 0) (.int 0) de h296 n0 ZZ298 A296 g_b296 F_elementData_b296 F_size_b296 F_modCount_b296 Ol299 S_DEFAULTCAPACITY_EMPTY_ELEMENTDATA) (by decide) (by decide) (by decide) rfl 7 rfl 8 rfl 9 rfl 6 rfl e296 (g := (mkF m 186 #[oI p0, oI p1, oI p2, oI p3, oI p4, oI p5, oI u0, oI u1, oI u2, oI v0, oI v1, oI v2, oR b107, oR b150, oR b194, oR b215, oU, oU, oU, oU, oU, oU, oU, oU] [(.ref b296), (.ref b296)])) rfl (by rw [hml]; rfl) (argsL := []) (rest := [(.ref b296)]) (lenOf pd0 rfl) rfl (Nat.le_of_eq rfl) (hb hby at_186) rfl (cN := 31) rfl (by decide) (sN := 115) rfl (by decide)
  obtain ⟨rfl, Nq300, P300_0, P300_1, P300_2, P300_3⟩ := hQ300
  have N300 := Fr.app N294 Nq300
  have SK301 := Nat.le_trans SK297 P300_0.1
  have ZZ302 : n0 ≤ T300.heap.size := Nat.le_trans ZZ298 P300_0.1
  have Ol303 := (Ol299.keep P300_0 (allS g_b296 all0))
  have Fc304 := ((((A215.ext E218).keep P294_0).ext E296).keep P300_0)
  obtain ⟨_, T305, L305, X305, hQ305, st305⟩ := own_cI X300 hx hZ294 hw how294 (b := b296) (W := 0) (rm_a1g l Z a0 hw [] b296 b215 (0 : Int32) de kde T300.heap n0 ZZ302 (A296.keep P300_0) g_b296 P300_1 P300_2 P300_3 Ol303 S_DEFAULTCAPACITY_EMPTY_ELEMENTDATA V_de E_de (Ins.of_exa Fc304 (own_w hw 318 rfl))) (by decide) (by decide) (by decide) 49 rfl 50 rfl 51 rfl 52 rfl 53 rfl 54 rfl 55 rfl 56 rfl 57 rfl 6 rfl rfl (A296.keep P300_0) (g := (mkF m 195 #[oI p0, oI p1, oI p2, oI p3, oI p4, oI p5, oI u0, oI u1, oI u2, oI v0, oI v1, oI v2, oR b107, oR b150, oR b194, oR b215, oR b296, oU, oU, oU, oU, oU, oU, oU] [(.ref b215), (.ref b296)])) rfl (by rw [hml]; rfl) (argsL := [(.ref b215)]) (rest := []) (lenOf pd25 rfl) rfl (Nat.le_of_eq rfl) (hb hby at_195) rfl (cN := 32) rfl (by decide) (sN := 125) rfl (by decide)
  obtain ⟨el_305, kel_305, rfl, Nq305, P305_0, P305_1, P305_2, P305_3, P305_4, P305_5, P305_6, P305_7⟩ := hQ305
  have N305 := Fr.app N300 Nq305
  have g_el_305 : n0 ≤ el_305 := Nat.le_trans ZZ302 P305_1
  have SK306 := Nat.le_trans SK301 P305_0.1
  have ZZ307 : n0 ≤ T305.heap.size := Nat.le_trans ZZ302 P305_0.1
  have Fr308 : Fld Z T305.heap b296 kABL "modCount" "I" (.int 1) := (own_fi (by decide) P305_4)
  obtain ⟨T309, h309, X309, e309, E309, A309, D309, -, st309⟩ := newO X305 hx hZ294 how294 (own_w hw 319 rfl) (own_w hw 320 rfl) (own_w hw 321 rfl) rfl (g := (mkF m 201 #[oI p0, oI p1, oI p2, oI p3, oI p4, oI p5, oI u0, oI u1, oI u2, oI v0, oI v1, oI v2, oR b107, oR b150, oR b194, oR b215, oR b296, oU, oU, oU, oU, oU, oU, oU] [])) rfl (hb hby at_201) (by decide) (by decide)
  obtain ⟨b309, g309⟩ : ∃ z, z = T305.heap.size := ⟨_, rfl⟩
  rw [← g309] at A309 D309 st309
  have g_b309 : n0 ≤ b309 := Nat.le_trans ZZ307 (Nat.le_of_eq g309.symm)
  have SK310 := Nat.le_trans SK306 E309.1
  have ZZ311 : n0 ≤ h309.size := Nat.le_trans ZZ307 E309.1
  have F_count_b309 : Fld Z h309 b309 kIV "count" "I" (.int 0) := D309 (Or.inr (own_w hw 328 rfl)) (ty := .int) (by decide)
  have F_instances_b309 : Fld Z h309 b309 kIV "instances" "I" (.int 0) := D309 (Or.inr (own_w hw 346 rfl)) (ty := .int) (by decide)
  have F_dimension_b309 : Fld Z h309 b309 kIV "dimension" "I" (.int 0) := D309 (Or.inr (own_w hw 360 rfl)) (ty := .int) (by decide)
  have F_vectors_b309 : Fld Z h309 b309 kIV "vectors" "I" (.int 0) := D309 (Or.inl (own_w hw 362 rfl)) (ty := .int) (by decide)
  have F_values_b309 : Fld Z h309 b309 kIV "values" "[D" .null := D309 (Or.inl (own_w hw 368 rfl)) (ty := (.array .double)) (by decide)
  have F_sums_b309 : Fld Z h309 b309 kIV "sums" "[D" .null := D309 (Or.inl (own_w hw 420 rfl)) (ty := (.array .double)) (by decide)
  have F_checks_b309 : Fld Z h309 b309 kIV "checks" "J" (.long (0 : Int64)) := D309 (Or.inl (own_w hw 431 rfl)) (ty := .long) (by decide)
  have Fc312 := (((A296.keep P300_0).keep P305_0).ext E309)
  have Fc313 := ((Fc304.keep P305_0).ext E309)
  have nq314 : b215 ≠ b296 := (Nat.ne_of_lt (Nat.lt_of_lt_of_le P294_6.lt (Nat.le_of_eq g296.symm)))
  have Fc315 := ((((P294_6.ext E296).keep P300_0 (ninS nq314 nin0)).keep P305_0 (ninS nq314 nin0)).ext E309)
  have Fc316 := ((((P294_7.ext E296).keep P300_0 (ninS nq314 nin0)).keep P305_0 (ninS nq314 nin0)).ext E309)
  have Fc317 := ((((P294_8.ext E296).keep P300_0).keep P305_0).ext E309)
  have nq318 : LL_294 ≠ b296 := (Nat.ne_of_lt (Nat.lt_of_lt_of_le P294_8.lt (Nat.le_of_eq g296.symm)))
  have Fc319 := ((((P294_9.ext E296).keep P300_0 (ninS nq318 nin0)).keep P305_0 (ninS nq318 nin0)).ext E309)
  have Fc320 := ((((P294_10.ext E296).keep P300_0 (ninS nq318 nin0)).keep P305_0 (ninS nq318 nin0)).ext E309)
  have Fc321 := ((((P294_11.ext E296).keep P300_0).keep P305_0).ext E309)
  have nq322 : NN0_294 ≠ b296 := (Nat.ne_of_lt (Nat.lt_of_lt_of_le P294_11.lt (Nat.le_of_eq g296.symm)))
  have Fc323 := ((((P294_12.ext E296).keep P300_0 (ninS nq322 nin0)).keep P305_0 (ninS nq322 nin0)).ext E309)
  have Fc324 := ((((P294_13.ext E296).keep P300_0 (ninS nq322 nin0)).keep P305_0 (ninS nq322 nin0)).ext E309)
  have nq325 : A0_294 ≠ b296 := (Nat.ne_of_lt (Nat.lt_of_lt_of_le P294_15.lt (Nat.le_of_eq g296.symm)))
  have Fc326 := ((((P294_14.ext E296).keep P300_0 (ninS nq325 nin0)).keep P305_0 (ninS nq325 nin0)).ext E309)
  have Fc327 := ((((P294_15.ext E296).keep P300_0).keep P305_0).ext E309)
  have Fc328 := ((((P294_16.ext E296).keep P300_0).keep P305_0).ext E309)
  have nq329 : NN1_294 ≠ b296 := (Nat.ne_of_lt (Nat.lt_of_lt_of_le P294_16.lt (Nat.le_of_eq g296.symm)))
  have Fc330 := ((((P294_17.ext E296).keep P300_0 (ninS nq329 nin0)).keep P305_0 (ninS nq329 nin0)).ext E309)
  have Fc331 := ((((P294_18.ext E296).keep P300_0 (ninS nq329 nin0)).keep P305_0 (ninS nq329 nin0)).ext E309)
  have nq332 : A1_294 ≠ b296 := (Nat.ne_of_lt (Nat.lt_of_lt_of_le P294_20.lt (Nat.le_of_eq g296.symm)))
  have Fc333 := ((((P294_19.ext E296).keep P300_0 (ninS nq332 nin0)).keep P305_0 (ninS nq332 nin0)).ext E309)
  have Fc334 := ((((P294_20.ext E296).keep P300_0).keep P305_0).ext E309)
  have Fc335 := (((((Fc251.keep P294_0).ext E296).keep P300_0).keep P305_0).ext E309)
  have nq336 : x_113 ≠ b215 := (Nat.ne_of_lt (Nat.lt_of_lt_of_le (((((((((((((((((P113_2.keep P121_0).keep P125_0).keep P132_0).keep P138_0).keep P144_0).ext E150).keep P154_0).keep P157_0).keep P165_0).keep P169_0).keep P176_0).keep P182_0).keep P188_0).ext E194).keep P198_0).keep P203_0).keep P209_0).lt (Nat.le_of_eq g215.symm)))
  have nq337 : x_113 ≠ b296 := (Nat.ne_of_lt (Nat.lt_of_lt_of_le (Fc251.keep P294_0).lt (Nat.le_of_eq g296.symm)))
  have Fc338 := (((((Fc258.keep P294_0 (ninS nq336 nin0)).ext E296).keep P300_0 (ninS nq337 nin0)).keep P305_0 (ninS nq337 nin0)).ext E309)
  have Fc339 := (((((Fc259.keep P294_0).ext E296).keep P300_0).keep P305_0).ext E309)
  have nq340 : x_125 ≠ b215 := (Nat.ne_of_lt (Nat.lt_of_lt_of_le (((((((((((((((P125_2.keep P132_0).keep P138_0).keep P144_0).ext E150).keep P154_0).keep P157_0).keep P165_0).keep P169_0).keep P176_0).keep P182_0).keep P188_0).ext E194).keep P198_0).keep P203_0).keep P209_0).lt (Nat.le_of_eq g215.symm)))
  have nq341 : x_125 ≠ b296 := (Nat.ne_of_lt (Nat.lt_of_lt_of_le (Fc259.keep P294_0).lt (Nat.le_of_eq g296.symm)))
  have Fc342 := (((((Fc266.keep P294_0 (ninS nq340 nin0)).ext E296).keep P300_0 (ninS nq341 nin0)).keep P305_0 (ninS nq341 nin0)).ext E309)
  have Fc343 := (((((Fc267.keep P294_0).ext E296).keep P300_0).keep P305_0).ext E309)
  have nq344 : x_138 ≠ b215 := (Nat.ne_of_lt (Nat.lt_of_lt_of_le (((((((((((((P138_2.keep P144_0).ext E150).keep P154_0).keep P157_0).keep P165_0).keep P169_0).keep P176_0).keep P182_0).keep P188_0).ext E194).keep P198_0).keep P203_0).keep P209_0).lt (Nat.le_of_eq g215.symm)))
  have nq345 : x_138 ≠ b296 := (Nat.ne_of_lt (Nat.lt_of_lt_of_le (Fc267.keep P294_0).lt (Nat.le_of_eq g296.symm)))
  have Fc346 := (((((Fc274.keep P294_0 (ninS nq344 nin0)).ext E296).keep P300_0 (ninS nq345 nin0)).keep P305_0 (ninS nq345 nin0)).ext E309)
  have Fc347 := (((((Fc275.keep P294_0).ext E296).keep P300_0).keep P305_0).ext E309)
  have nq348 : x_157 ≠ b215 := (Nat.ne_of_lt (Nat.lt_of_lt_of_le (((((((((P157_2.keep P165_0).keep P169_0).keep P176_0).keep P182_0).keep P188_0).ext E194).keep P198_0).keep P203_0).keep P209_0).lt (Nat.le_of_eq g215.symm)))
  have nq349 : x_157 ≠ b296 := (Nat.ne_of_lt (Nat.lt_of_lt_of_le (Fc275.keep P294_0).lt (Nat.le_of_eq g296.symm)))
  have Fc350 := (((((Fc280.keep P294_0 (ninS nq348 nin0)).ext E296).keep P300_0 (ninS nq349 nin0)).keep P305_0 (ninS nq349 nin0)).ext E309)
  have Fc351 := (((((Fc281.keep P294_0).ext E296).keep P300_0).keep P305_0).ext E309)
  have nq352 : x_169 ≠ b215 := (Nat.ne_of_lt (Nat.lt_of_lt_of_le (((((((P169_2.keep P176_0).keep P182_0).keep P188_0).ext E194).keep P198_0).keep P203_0).keep P209_0).lt (Nat.le_of_eq g215.symm)))
  have nq353 : x_169 ≠ b296 := (Nat.ne_of_lt (Nat.lt_of_lt_of_le (Fc281.keep P294_0).lt (Nat.le_of_eq g296.symm)))
  have Fc354 := (((((Fc286.keep P294_0 (ninS nq352 nin0)).ext E296).keep P300_0 (ninS nq353 nin0)).keep P305_0 (ninS nq353 nin0)).ext E309)
  have Fc355 := (((((Fc287.keep P294_0).ext E296).keep P300_0).keep P305_0).ext E309)
  have nq356 : x_182 ≠ b215 := (Nat.ne_of_lt (Nat.lt_of_lt_of_le (((((P182_2.keep P188_0).ext E194).keep P198_0).keep P203_0).keep P209_0).lt (Nat.le_of_eq g215.symm)))
  have nq357 : x_182 ≠ b296 := (Nat.ne_of_lt (Nat.lt_of_lt_of_le (Fc287.keep P294_0).lt (Nat.le_of_eq g296.symm)))
  have Fc358 := (((((Fc292.keep P294_0 (ninS nq356 nin0)).ext E296).keep P300_0 (ninS nq357 nin0)).keep P305_0 (ninS nq357 nin0)).ext E309)
  have Ol359 := ((Ol303.keep P305_0 (allS g_b296 all0)).ext E309)
  obtain ⟨_, T360, L360, X360, hQ360, st360⟩ := own_cC X309 hx hZ294 hw how294 (b := b309) (W := 1) (rmm45 l Z a0 hw [] b309 b296 (.int 0) (.int 0) (.int 0) (.int 0) .null .null (.long (0 : Int64)) (.ref b218) el_305 em b215 LL_294 NN0_294 NN1_294 A0_294 A1_294 x_113 x_125 x_138 x_157 x_169 x_182 kel_305 kA0_294 kA1_294 (own_i2 u0) (own_i2 u1) (own_i2 u2) (own_i2 v0) (own_i2 v1) (own_i2 v2) h309 n0 ZZ311 A309 g_b309 F_count_b309 F_instances_b309 F_dimension_b309 F_vectors_b309 F_values_b309 F_sums_b309 F_checks_b309 Fc312 (P305_2.ext E309) (P305_3.ext E309) (Fr308.ext E309) (P305_5.ext E309) (P305_6.ext E309) Fc313 Fc315 Fc316 Fc317 Fc319 Fc320 Fc321 Fc323 Fc324 Fc326 Fc327 Fc328 Fc330 Fc331 Fc333 Fc334 Fc335 Fc338 Fc339 Fc342 Fc343 Fc346 Fc347 Fc350 Fc351 Fc354 Fc355 Fc358 Ol359 S_EMPTY E_em (Ne.symm (Old.ne Ol359 E_em.lt g_NN1_294)) (own_is1 u0) (own_is2 u0 u1) (own_is3 u0 u1 u2) (own_is1 v0) (own_is2 v0 v1) (own_is3 v0 v1 v2)) (by decide) (by decide) (by decide) rfl 322 rfl 323 rfl 324 rfl 321 rfl e309 (g := (mkF m 207 #[oI p0, oI p1, oI p2, oI p3, oI p4, oI p5, oI u0, oI u1, oI u2, oI v0, oI v1, oI v2, oR b107, oR b150, oR b194, oR b215, oR b296, oU, oU, oU, oU, oU, oU, oU] [(.ref b296), (.ref b309), (.ref b309)])) rfl (by rw [hml]; rfl) (argsL := [(.ref b296)]) (rest := [(.ref b309)]) (lenOf pd33 rfl) rfl (Nat.le_of_eq rfl) (hb hby at_207) rfl (cN := 41) rfl (by decide) (sN := 182) rfl (by decide)
  obtain ⟨va_360, kva_360, rfl, Nq360, P360_0, P360_1, P360_2, P360_3, P360_4, P360_5, P360_6⟩ := hQ360
  have N360 := Fr.app N305 Nq360
  have g_va_360 : n0 ≤ va_360 := Nat.le_trans ZZ311 P360_1
  have SK361 := Nat.le_trans SK310 P360_0.1
  have ZZ362 : n0 ≤ T360.heap.size := Nat.le_trans ZZ311 P360_0.1
  have pre363 : ∀ t, Steps p.tables e below (T360.setTop (mkF m 216 #[oI p0, oI p1, oI p2, oI p3, oI p4, oI p5, oI u0, oI u1, oI u2, oI v0, oI v1, oI v2, oR b107, oR b150, oR b194, oR b215, oR b296, oR b309, oU, oU, oU, oU, oU, oU] [(.int v0), (.int u0)])) t → Steps p.tables e below (s₁.setTop (mkF m 0 #[oI p0, oI p1, oI p2, oI p3, oI p4, oI p5, oU, oU, oU, oU, oU, oU, oU, oU, oU, oU, oU, oU, oU, oU, oU, oU, oU, oU] [])) t := by
    intro t kt
    show own_S p e below s₁ m 0 #[oI p0, oI p1, oI p2, oI p3, oI p4, oI p5, oU, oU, oU, oU, oU, oU, oU, oU, oU, oU, oU, oU, oU, oU, oU, oU, oU, oU] [] _
    refine XS.iloadN X0.here hx rfl (hb hby at_0) rfl ?_
    show own_S p e below s₁ m 1 _ [(.int p0)] _
    refine st101.trans ?_
    show own_S p e below T101 m 4 _ [(.int ((p0 &&& (7 : Int32)) - (3 : Int32)))] _
    refine reI (hu0.symm : ((p0 &&& (7 : Int32)) - (3 : Int32)) = u0) ?_
    show own_S p e below T101 m 4 _ [(.int u0)] _
    refine XS.istore X101.here hx rfl (hb hby at_4) rfl (l' := #[oI p0, oI p1, oI p2, oI p3, oI p4, oI p5, oI u0, oU, oU, oU, oU, oU, oU, oU, oU, oU, oU, oU, oU, oU, oU, oU, oU, oU]) rfl ?_
    refine XS.iloadN X101.here hx rfl (hb hby at_6) rfl ?_
    show own_S p e below T101 m 7 _ [(.int p1)] _
    refine st102.trans ?_
    show own_S p e below T102 m 10 _ [(.int ((p1 &&& (7 : Int32)) - (3 : Int32)))] _
    refine reI (hu1.symm : ((p1 &&& (7 : Int32)) - (3 : Int32)) = u1) ?_
    show own_S p e below T102 m 10 _ [(.int u1)] _
    refine XS.istore X102.here hx rfl (hb hby at_10) rfl (l' := #[oI p0, oI p1, oI p2, oI p3, oI p4, oI p5, oI u0, oI u1, oU, oU, oU, oU, oU, oU, oU, oU, oU, oU, oU, oU, oU, oU, oU, oU]) rfl ?_
    refine XS.iloadN X102.here hx rfl (hb hby at_12) rfl ?_
    show own_S p e below T102 m 13 _ [(.int p2)] _
    refine st103.trans ?_
    show own_S p e below T103 m 16 _ [(.int ((p2 &&& (7 : Int32)) - (3 : Int32)))] _
    refine reI (hu2.symm : ((p2 &&& (7 : Int32)) - (3 : Int32)) = u2) ?_
    show own_S p e below T103 m 16 _ [(.int u2)] _
    refine XS.istore X103.here hx rfl (hb hby at_16) rfl (l' := #[oI p0, oI p1, oI p2, oI p3, oI p4, oI p5, oI u0, oI u1, oI u2, oU, oU, oU, oU, oU, oU, oU, oU, oU, oU, oU, oU, oU, oU, oU]) rfl ?_
    refine XS.iloadN X103.here hx rfl (hb hby at_18) rfl ?_
    show own_S p e below T103 m 19 _ [(.int p3)] _
    refine st104.trans ?_
    show own_S p e below T104 m 22 _ [(.int ((p3 &&& (7 : Int32)) - (3 : Int32)))] _
    refine reI (hv0.symm : ((p3 &&& (7 : Int32)) - (3 : Int32)) = v0) ?_
    show own_S p e below T104 m 22 _ [(.int v0)] _
    refine XS.istore X104.here hx rfl (hb hby at_22) rfl (l' := #[oI p0, oI p1, oI p2, oI p3, oI p4, oI p5, oI u0, oI u1, oI u2, oI v0, oU, oU, oU, oU, oU, oU, oU, oU, oU, oU, oU, oU, oU, oU]) rfl ?_
    refine XS.iload X104.here hx rfl (hb hby at_24) rfl ?_
    show own_S p e below T104 m 26 _ [(.int p4)] _
    refine st105.trans ?_
    show own_S p e below T105 m 29 _ [(.int ((p4 &&& (7 : Int32)) - (3 : Int32)))] _
    refine reI (hv1.symm : ((p4 &&& (7 : Int32)) - (3 : Int32)) = v1) ?_
    show own_S p e below T105 m 29 _ [(.int v1)] _
    refine XS.istore X105.here hx rfl (hb hby at_29) rfl (l' := #[oI p0, oI p1, oI p2, oI p3, oI p4, oI p5, oI u0, oI u1, oI u2, oI v0, oI v1, oU, oU, oU, oU, oU, oU, oU, oU, oU, oU, oU, oU, oU]) rfl ?_
    refine XS.iload X105.here hx rfl (hb hby at_31) rfl ?_
    show own_S p e below T105 m 33 _ [(.int p5)] _
    refine st106.trans ?_
    show own_S p e below T106 m 36 _ [(.int ((p5 &&& (7 : Int32)) - (3 : Int32)))] _
    refine reI (hv2.symm : ((p5 &&& (7 : Int32)) - (3 : Int32)) = v2) ?_
    show own_S p e below T106 m 36 _ [(.int v2)] _
    refine XS.istore X106.here hx rfl (hb hby at_36) rfl (l' := #[oI p0, oI p1, oI p2, oI p3, oI p4, oI p5, oI u0, oI u1, oI u2, oI v0, oI v1, oI v2, oU, oU, oU, oU, oU, oU, oU, oU, oU, oU, oU, oU]) rfl ?_
    show own_S p e below T106 m 38 #[oI p0, oI p1, oI p2, oI p3, oI p4, oI p5, oI u0, oI u1, oI u2, oI v0, oI v1, oI v2, oU, oU, oU, oU, oU, oU, oU, oU, oU, oU, oU, oU] [] _
    refine st107 _ ?_
    show own_S p e below T107 m 41 _ [(.ref b107)] _
    refine XS.dup X107.here hx rfl (hb hby at_41) rfl rfl ?_
    show own_S p e below T107 m 42 _ [(.ref b107), (.ref b107)] _
    refine st110.trans ?_
    show own_S p e below T110 m 45 _ [(.ref b107)] _
    refine XS.astore X110.here hx rfl (hb hby at_45) rfl rfl (l' := #[oI p0, oI p1, oI p2, oI p3, oI p4, oI p5, oI u0, oI u1, oI u2, oI v0, oI v1, oI v2, oR b107, oU, oU, oU, oU, oU, oU, oU, oU, oU, oU, oU]) rfl ?_
    refine XS.aload X110.here hx rfl (hb hby at_47) rfl rfl ?_
    refine XS.iload X110.here hx rfl (hb hby at_49) rfl ?_
    show own_S p e below T110 m 51 _ [(.int u0), (.ref b107)] _
    refine XS.i2dS X110.here hx rfl (v := (own_i2 u0)) (hb hby at_51) rfl rfl ?_
    show own_S p e below T110 m 52 _ [(.double (own_i2 u0)), (.ref b107)] _
    refine st113.trans ?_
    show own_S p e below T113 m 55 _ [(.ref x_113), (.ref b107)] _
    refine st121.trans ?_
    show own_S p e below T121 m 60 _ [(.int 1)] _
    refine XS.pop X121.here hx rfl (hb hby at_60) rfl rfl ?_
    show own_S p e below T121 m 61 _ [] _
    refine XS.aload X121.here hx rfl (hb hby at_61) rfl rfl ?_
    refine XS.iload X121.here hx rfl (hb hby at_63) rfl ?_
    show own_S p e below T121 m 65 _ [(.int u1), (.ref b107)] _
    refine XS.i2dS X121.here hx rfl (v := (own_i2 u1)) (hb hby at_65) rfl rfl ?_
    show own_S p e below T121 m 66 _ [(.double (own_i2 u1)), (.ref b107)] _
    refine st125.trans ?_
    show own_S p e below T125 m 69 _ [(.ref x_125), (.ref b107)] _
    refine st132.trans ?_
    show own_S p e below T132 m 74 _ [(.int 1)] _
    refine XS.pop X132.here hx rfl (hb hby at_74) rfl rfl ?_
    show own_S p e below T132 m 75 _ [] _
    refine XS.aload X132.here hx rfl (hb hby at_75) rfl rfl ?_
    refine XS.iload X132.here hx rfl (hb hby at_77) rfl ?_
    show own_S p e below T132 m 79 #[oI p0, oI p1, oI p2, oI p3, oI p4, oI p5, oI u0, oI u1, oI u2, oI v0, oI v1, oI v2, oR b107, oU, oU, oU, oU, oU, oU, oU, oU, oU, oU, oU] [(.int u2), (.ref b107)] _
    refine XS.i2dS X132.here hx rfl (v := (own_i2 u2)) (hb hby at_79) rfl rfl ?_
    show own_S p e below T132 m 80 _ [(.double (own_i2 u2)), (.ref b107)] _
    refine st138.trans ?_
    show own_S p e below T138 m 83 _ [(.ref x_138), (.ref b107)] _
    refine st144.trans ?_
    show own_S p e below T144 m 88 _ [(.int 1)] _
    refine XS.pop X144.here hx rfl (hb hby at_88) rfl rfl ?_
    show own_S p e below T144 m 89 _ [] _
    refine st150 _ ?_
    show own_S p e below T150 m 92 _ [(.ref b150)] _
    refine XS.dup X150.here hx rfl (hb hby at_92) rfl rfl ?_
    show own_S p e below T150 m 93 _ [(.ref b150), (.ref b150)] _
    refine st154.trans ?_
    show own_S p e below T154 m 96 #[oI p0, oI p1, oI p2, oI p3, oI p4, oI p5, oI u0, oI u1, oI u2, oI v0, oI v1, oI v2, oR b107, oU, oU, oU, oU, oU, oU, oU, oU, oU, oU, oU] [(.ref b150)] _
    refine XS.astore X154.here hx rfl (hb hby at_96) rfl rfl (l' := #[oI p0, oI p1, oI p2, oI p3, oI p4, oI p5, oI u0, oI u1, oI u2, oI v0, oI v1, oI v2, oR b107, oR b150, oU, oU, oU, oU, oU, oU, oU, oU, oU, oU]) rfl ?_
    refine XS.aload X154.here hx rfl (hb hby at_98) rfl rfl ?_
    refine XS.iload X154.here hx rfl (hb hby at_100) rfl ?_
    show own_S p e below T154 m 102 _ [(.int v0), (.ref b150)] _
    refine XS.i2dS X154.here hx rfl (v := (own_i2 v0)) (hb hby at_102) rfl rfl ?_
    show own_S p e below T154 m 103 _ [(.double (own_i2 v0)), (.ref b150)] _
    refine st157.trans ?_
    show own_S p e below T157 m 106 _ [(.ref x_157), (.ref b150)] _
    refine st165.trans ?_
    show own_S p e below T165 m 111 _ [(.int 1)] _
    refine XS.pop X165.here hx rfl (hb hby at_111) rfl rfl ?_
    show own_S p e below T165 m 112 _ [] _
    refine XS.aload X165.here hx rfl (hb hby at_112) rfl rfl ?_
    refine XS.iload X165.here hx rfl (hb hby at_114) rfl ?_
    show own_S p e below T165 m 116 _ [(.int v1), (.ref b150)] _
    refine XS.i2dS X165.here hx rfl (v := (own_i2 v1)) (hb hby at_116) rfl rfl ?_
    show own_S p e below T165 m 117 _ [(.double (own_i2 v1)), (.ref b150)] _
    refine st169.trans ?_
    show own_S p e below T169 m 120 _ [(.ref x_169), (.ref b150)] _
    refine st176.trans ?_
    show own_S p e below T176 m 125 _ [(.int 1)] _
    refine XS.pop X176.here hx rfl (hb hby at_125) rfl rfl ?_
    show own_S p e below T176 m 126 _ [] _
    refine XS.aload X176.here hx rfl (hb hby at_126) rfl rfl ?_
    refine XS.iload X176.here hx rfl (hb hby at_128) rfl ?_
    show own_S p e below T176 m 130 #[oI p0, oI p1, oI p2, oI p3, oI p4, oI p5, oI u0, oI u1, oI u2, oI v0, oI v1, oI v2, oR b107, oR b150, oU, oU, oU, oU, oU, oU, oU, oU, oU, oU] [(.int v2), (.ref b150)] _
    refine XS.i2dS X176.here hx rfl (v := (own_i2 v2)) (hb hby at_130) rfl rfl ?_
    show own_S p e below T176 m 131 _ [(.double (own_i2 v2)), (.ref b150)] _
    refine st182.trans ?_
    show own_S p e below T182 m 134 _ [(.ref x_182), (.ref b150)] _
    refine st188.trans ?_
    show own_S p e below T188 m 139 _ [(.int 1)] _
    refine XS.pop X188.here hx rfl (hb hby at_139) rfl rfl ?_
    show own_S p e below T188 m 140 _ [] _
    refine st194 _ ?_
    show own_S p e below T194 m 143 _ [(.ref b194)] _
    refine XS.dup X194.here hx rfl (hb hby at_143) rfl rfl ?_
    show own_S p e below T194 m 144 _ [(.ref b194), (.ref b194)] _
    refine st198.trans ?_
    show own_S p e below T198 m 147 #[oI p0, oI p1, oI p2, oI p3, oI p4, oI p5, oI u0, oI u1, oI u2, oI v0, oI v1, oI v2, oR b107, oR b150, oU, oU, oU, oU, oU, oU, oU, oU, oU, oU] [(.ref b194)] _
    refine XS.astore X198.here hx rfl (hb hby at_147) rfl rfl (l' := #[oI p0, oI p1, oI p2, oI p3, oI p4, oI p5, oI u0, oI u1, oI u2, oI v0, oI v1, oI v2, oR b107, oR b150, oR b194, oU, oU, oU, oU, oU, oU, oU, oU, oU]) rfl ?_
    refine XS.aload X198.here hx rfl (hb hby at_149) rfl rfl ?_
    refine XS.aload X198.here hx rfl (hb hby at_151) rfl rfl ?_
    show own_S p e below T198 m 153 _ [(.ref b107), (.ref b194)] _
    refine st203.trans ?_
    show own_S p e below T203 m 158 _ [(.int 1)] _
    refine XS.pop X203.here hx rfl (hb hby at_158) rfl rfl ?_
    show own_S p e below T203 m 159 _ [] _
    refine XS.aload X203.here hx rfl (hb hby at_159) rfl rfl ?_
    refine XS.aload X203.here hx rfl (hb hby at_161) rfl rfl ?_
    show own_S p e below T203 m 163 _ [(.ref b150), (.ref b194)] _
    refine st209.trans ?_
    show own_S p e below T209 m 168 #[oI p0, oI p1, oI p2, oI p3, oI p4, oI p5, oI u0, oI u1, oI u2, oI v0, oI v1, oI v2, oR b107, oR b150, oR b194, oU, oU, oU, oU, oU, oU, oU, oU, oU] [(.int 1)] _
    refine XS.pop X209.here hx rfl (hb hby at_168) rfl rfl ?_
    show own_S p e below T209 m 169 _ [] _
    refine st215 _ ?_
    show own_S p e below T215 m 172 _ [(.ref b215)] _
    refine XS.dup X215.here hx rfl (hb hby at_172) rfl rfl ?_
    show own_S p e below T215 m 173 _ [(.ref b215), (.ref b215)] _
    refine st218 _ ?_
    show own_S p e below T218 m 175 _ [(.ref b218), (.ref b215), (.ref b215)] _
    refine XS.aload X218.here hx rfl (hb hby at_175) rfl rfl ?_
    show own_S p e below T218 m 177 _ [(.ref b194), (.ref b218), (.ref b215), (.ref b215)] _
    refine st294.trans ?_
    show own_S p e below T294 m 180 _ [(.ref b215)] _
    refine XS.astore X294.here hx rfl (hb hby at_180) rfl rfl (l' := #[oI p0, oI p1, oI p2, oI p3, oI p4, oI p5, oI u0, oI u1, oI u2, oI v0, oI v1, oI v2, oR b107, oR b150, oR b194, oR b215, oU, oU, oU, oU, oU, oU, oU, oU]) rfl ?_
    show own_S p e below T294 m 182 #[oI p0, oI p1, oI p2, oI p3, oI p4, oI p5, oI u0, oI u1, oI u2, oI v0, oI v1, oI v2, oR b107, oR b150, oR b194, oR b215, oU, oU, oU, oU, oU, oU, oU, oU] [] _
    refine st296 _ ?_
    show own_S p e below T296 m 185 _ [(.ref b296)] _
    refine XS.dup X296.here hx rfl (hb hby at_185) rfl rfl ?_
    show own_S p e below T296 m 186 _ [(.ref b296), (.ref b296)] _
    refine st300.trans ?_
    show own_S p e below T300 m 189 _ [(.ref b296)] _
    refine XS.astore X300.here hx rfl (hb hby at_189) rfl rfl (l' := #[oI p0, oI p1, oI p2, oI p3, oI p4, oI p5, oI u0, oI u1, oI u2, oI v0, oI v1, oI v2, oR b107, oR b150, oR b194, oR b215, oR b296, oU, oU, oU, oU, oU, oU, oU]) rfl ?_
    refine XS.aload X300.here hx rfl (hb hby at_191) rfl rfl ?_
    refine XS.aload X300.here hx rfl (hb hby at_193) rfl rfl ?_
    show own_S p e below T300 m 195 _ [(.ref b215), (.ref b296)] _
    refine st305.trans ?_
    show own_S p e below T305 m 200 _ [(.int 1)] _
    refine XS.pop X305.here hx rfl (hb hby at_200) rfl rfl ?_
    show own_S p e below T305 m 201 _ [] _
    refine st309 _ ?_
    show own_S p e below T309 m 204 _ [(.ref b309)] _
    refine XS.dup X309.here hx rfl (hb hby at_204) rfl rfl ?_
    refine XS.aload X309.here hx rfl (hb hby at_205) rfl rfl ?_
    show own_S p e below T309 m 207 #[oI p0, oI p1, oI p2, oI p3, oI p4, oI p5, oI u0, oI u1, oI u2, oI v0, oI v1, oI v2, oR b107, oR b150, oR b194, oR b215, oR b296, oU, oU, oU, oU, oU, oU, oU] [(.ref b296), (.ref b309), (.ref b309)] _
    refine st360.trans ?_
    show own_S p e below T360 m 210 _ [(.ref b309)] _
    refine XS.astore X360.here hx rfl (hb hby at_210) rfl rfl (l' := #[oI p0, oI p1, oI p2, oI p3, oI p4, oI p5, oI u0, oI u1, oI u2, oI v0, oI v1, oI v2, oR b107, oR b150, oR b194, oR b215, oR b296, oR b309, oU, oU, oU, oU, oU, oU]) rfl ?_
    refine XS.iload X360.here hx rfl (hb hby at_212) rfl ?_
    refine XS.iload X360.here hx rfl (hb hby at_214) rfl ?_
    exact kt
  have pre364 : ∀ t, Steps p.tables e below (T360.setTop (mkF m 238 #[oI p0, oI p1, oI p2, oI p3, oI p4, oI p5, oI u0, oI u1, oI u2, oI v0, oI v1, oI v2, oR b107, oR b150, oR b194, oR b215, oR b296, oR b309, oU, oU, oU, oU, oU, oU] [(.int gt)])) t → Steps p.tables e below (s₁.setTop (mkF m 0 #[oI p0, oI p1, oI p2, oI p3, oI p4, oI p5, oU, oU, oU, oU, oU, oU, oU, oU, oU, oU, oU, oU, oU, oU, oU, oU, oU, oU] [])) t := by
    intro t kt
    refine pre363 _ ?_
    show own_S p e below T360 m 216 #[oI p0, oI p1, oI p2, oI p3, oI p4, oI p5, oI u0, oI u1, oI u2, oI v0, oI v1, oI v2, oR b107, oR b150, oR b194, oR b215, oR b296, oR b309, oU, oU, oU, oU, oU, oU] [(.int v0), (.int u0)] _
    by_cases x0 : v0 < u0
    · skip
      refine XS.icmpYes X360.here hx rfl (pc0 := 216) (pc' := 233) rfl (hb hby at_216) rfl (tlt (x0 : v0 < u0)).2.2.1 (by decide) (by decide) ?_
      refine XS.iconst X360.here hx rfl (hb hby at_233) ?_
      refine XS.goto X360.here hx rfl (pc0 := 234) (pc' := 238) rfl (hb hby at_234) (by decide) (by decide) ?_
      rw [((own_g0 hgt x0) : gt = (1 : Int32))] at kt
      exact kt
    · skip
      refine XS.icmpNo X360.here hx rfl (hb hby at_216) rfl (flt (x0 : ¬ (v0 < u0))).2.2.1 ?_
      refine XS.iload X360.here hx rfl (hb hby at_219) rfl ?_
      show own_S p e below T360 m 221 _ [(.int u1)] _
      refine XS.iload X360.here hx rfl (hb hby at_221) rfl ?_
      show own_S p e below T360 m 223 _ [(.int v1), (.int u1)] _
      by_cases x1 : v1 < u1
      · skip
        refine XS.icmpYes X360.here hx rfl (pc0 := 223) (pc' := 233) rfl (hb hby at_223) rfl (tlt (x1 : v1 < u1)).2.2.1 (by decide) (by decide) ?_
        refine XS.iconst X360.here hx rfl (hb hby at_233) ?_
        refine XS.goto X360.here hx rfl (pc0 := 234) (pc' := 238) rfl (hb hby at_234) (by decide) (by decide) ?_
        rw [((own_g1 hgt x0 x1) : gt = (1 : Int32))] at kt
        exact kt
      · skip
        refine XS.icmpNo X360.here hx rfl (hb hby at_223) rfl (flt (x1 : ¬ (v1 < u1))).2.2.1 ?_
        refine XS.iload X360.here hx rfl (hb hby at_226) rfl ?_
        show own_S p e below T360 m 228 _ [(.int u2)] _
        refine XS.iload X360.here hx rfl (hb hby at_228) rfl ?_
        show own_S p e below T360 m 230 _ [(.int v2), (.int u2)] _
        by_cases x2 : v2 < u2
        · skip
          refine XS.icmpNo X360.here hx rfl (hb hby at_230) rfl (tlt (x2 : v2 < u2)).2.2.2 ?_
          refine XS.iconst X360.here hx rfl (hb hby at_233) ?_
          refine XS.goto X360.here hx rfl (pc0 := 234) (pc' := 238) rfl (hb hby at_234) (by decide) (by decide) ?_
          rw [((own_g2 hgt x0 x1 x2) : gt = (1 : Int32))] at kt
          exact kt
        · skip
          refine XS.icmpYes X360.here hx rfl (pc0 := 230) (pc' := 237) rfl (hb hby at_230) rfl (flt (x2 : ¬ (v2 < u2))).2.2.2 (by decide) (by decide) ?_
          refine XS.iconst X360.here hx rfl (hb hby at_237) ?_
          rw [((own_g3 hgt x0 x1 x2) : gt = (0 : Int32))] at kt
          exact kt
  have pre365 : ∀ t, Steps p.tables e below (T360.setTop (mkF m 244 #[oI p0, oI p1, oI p2, oI p3, oI p4, oI p5, oI u0, oI u1, oI u2, oI v0, oI v1, oI v2, oR b107, oR b150, oR b194, oR b215, oR b296, oR b309, oI gt, oU, oU, oU, oU, oU] [(.int v0), (.int u0)])) t → Steps p.tables e below (s₁.setTop (mkF m 0 #[oI p0, oI p1, oI p2, oI p3, oI p4, oI p5, oU, oU, oU, oU, oU, oU, oU, oU, oU, oU, oU, oU, oU, oU, oU, oU, oU, oU] [])) t := by
    intro t kt
    refine pre364 _ ?_
    show own_S p e below T360 m 238 #[oI p0, oI p1, oI p2, oI p3, oI p4, oI p5, oI u0, oI u1, oI u2, oI v0, oI v1, oI v2, oR b107, oR b150, oR b194, oR b215, oR b296, oR b309, oU, oU, oU, oU, oU, oU] [(.int gt)] _
    refine XS.istore X360.here hx rfl (hb hby at_238) rfl (l' := #[oI p0, oI p1, oI p2, oI p3, oI p4, oI p5, oI u0, oI u1, oI u2, oI v0, oI v1, oI v2, oR b107, oR b150, oR b194, oR b215, oR b296, oR b309, oI gt, oU, oU, oU, oU, oU]) rfl ?_
    refine XS.iload X360.here hx rfl (hb hby at_240) rfl ?_
    refine XS.iload X360.here hx rfl (hb hby at_242) rfl ?_
    exact kt
  have pre366 : ∀ t, Steps p.tables e below (T360.setTop (mkF m 266 #[oI p0, oI p1, oI p2, oI p3, oI p4, oI p5, oI u0, oI u1, oI u2, oI v0, oI v1, oI v2, oR b107, oR b150, oR b194, oR b215, oR b296, oR b309, oI gt, oU, oU, oU, oU, oU] [(.int lt)])) t → Steps p.tables e below (s₁.setTop (mkF m 0 #[oI p0, oI p1, oI p2, oI p3, oI p4, oI p5, oU, oU, oU, oU, oU, oU, oU, oU, oU, oU, oU, oU, oU, oU, oU, oU, oU, oU] [])) t := by
    intro t kt
    refine pre365 _ ?_
    show own_S p e below T360 m 244 #[oI p0, oI p1, oI p2, oI p3, oI p4, oI p5, oI u0, oI u1, oI u2, oI v0, oI v1, oI v2, oR b107, oR b150, oR b194, oR b215, oR b296, oR b309, oI gt, oU, oU, oU, oU, oU] [(.int v0), (.int u0)] _
    by_cases y0 : u0 < v0
    · skip
      refine XS.icmpYes X360.here hx rfl (pc0 := 244) (pc' := 261) rfl (hb hby at_244) rfl (tlt (y0 : u0 < v0)).1 (by decide) (by decide) ?_
      refine XS.iconst X360.here hx rfl (hb hby at_261) ?_
      refine XS.goto X360.here hx rfl (pc0 := 262) (pc' := 266) rfl (hb hby at_262) (by decide) (by decide) ?_
      rw [((own_g0 hlt y0) : lt = (1 : Int32))] at kt
      exact kt
    · skip
      refine XS.icmpNo X360.here hx rfl (hb hby at_244) rfl (flt (y0 : ¬ (u0 < v0))).1 ?_
      refine XS.iload X360.here hx rfl (hb hby at_247) rfl ?_
      show own_S p e below T360 m 249 _ [(.int u1)] _
      refine XS.iload X360.here hx rfl (hb hby at_249) rfl ?_
      show own_S p e below T360 m 251 _ [(.int v1), (.int u1)] _
      by_cases y1 : u1 < v1
      · skip
        refine XS.icmpYes X360.here hx rfl (pc0 := 251) (pc' := 261) rfl (hb hby at_251) rfl (tlt (y1 : u1 < v1)).1 (by decide) (by decide) ?_
        refine XS.iconst X360.here hx rfl (hb hby at_261) ?_
        refine XS.goto X360.here hx rfl (pc0 := 262) (pc' := 266) rfl (hb hby at_262) (by decide) (by decide) ?_
        rw [((own_g1 hlt y0 y1) : lt = (1 : Int32))] at kt
        exact kt
      · skip
        refine XS.icmpNo X360.here hx rfl (hb hby at_251) rfl (flt (y1 : ¬ (u1 < v1))).1 ?_
        refine XS.iload X360.here hx rfl (hb hby at_254) rfl ?_
        show own_S p e below T360 m 256 _ [(.int u2)] _
        refine XS.iload X360.here hx rfl (hb hby at_256) rfl ?_
        show own_S p e below T360 m 258 _ [(.int v2), (.int u2)] _
        by_cases y2 : u2 < v2
        · skip
          refine XS.icmpNo X360.here hx rfl (hb hby at_258) rfl (tlt (y2 : u2 < v2)).2.1 ?_
          refine XS.iconst X360.here hx rfl (hb hby at_261) ?_
          refine XS.goto X360.here hx rfl (pc0 := 262) (pc' := 266) rfl (hb hby at_262) (by decide) (by decide) ?_
          rw [((own_g2 hlt y0 y1 y2) : lt = (1 : Int32))] at kt
          exact kt
        · skip
          refine XS.icmpYes X360.here hx rfl (pc0 := 258) (pc' := 265) rfl (hb hby at_258) rfl (flt (y2 : ¬ (u2 < v2))).2.1 (by decide) (by decide) ?_
          refine XS.iconst X360.here hx rfl (hb hby at_265) ?_
          rw [((own_g3 hlt y0 y1 y2) : lt = (0 : Int32))] at kt
          exact kt
  have pre367 : ∀ t, Steps p.tables e below (T360.setTop (mkF m 272 #[oI p0, oI p1, oI p2, oI p3, oI p4, oI p5, oI u0, oI u1, oI u2, oI v0, oI v1, oI v2, oR b107, oR b150, oR b194, oR b215, oR b296, oR b309, oI gt, oI lt, oU, oU, oU, oU] [(.int lt), (.int gt)])) t → Steps p.tables e below (s₁.setTop (mkF m 0 #[oI p0, oI p1, oI p2, oI p3, oI p4, oI p5, oU, oU, oU, oU, oU, oU, oU, oU, oU, oU, oU, oU, oU, oU, oU, oU, oU, oU] [])) t := by
    intro t kt
    refine pre366 _ ?_
    show own_S p e below T360 m 266 #[oI p0, oI p1, oI p2, oI p3, oI p4, oI p5, oI u0, oI u1, oI u2, oI v0, oI v1, oI v2, oR b107, oR b150, oR b194, oR b215, oR b296, oR b309, oI gt, oU, oU, oU, oU, oU] [(.int lt)] _
    refine XS.istore X360.here hx rfl (hb hby at_266) rfl (l' := #[oI p0, oI p1, oI p2, oI p3, oI p4, oI p5, oI u0, oI u1, oI u2, oI v0, oI v1, oI v2, oR b107, oR b150, oR b194, oR b215, oR b296, oR b309, oI gt, oI lt, oU, oU, oU, oU]) rfl ?_
    refine XS.iload X360.here hx rfl (hb hby at_268) rfl ?_
    refine XS.iload X360.here hx rfl (hb hby at_270) rfl ?_
    exact kt
  have pre368 : ∀ t, Steps p.tables e below (T360.setTop (mkF m 295 #[oI p0, oI p1, oI p2, oI p3, oI p4, oI p5, oI u0, oI u1, oI u2, oI v0, oI v1, oI v2, oR b107, oR b150, oR b194, oR b215, oR b296, oR b309, oI gt, oI lt, oI ex, oU, oU, oU] [])) t → Steps p.tables e below (s₁.setTop (mkF m 0 #[oI p0, oI p1, oI p2, oI p3, oI p4, oI p5, oU, oU, oU, oU, oU, oU, oU, oU, oU, oU, oU, oU, oU, oU, oU, oU, oU, oU] [])) t := by
    intro t kt
    refine pre367 _ ?_
    show own_S p e below T360 m 272 #[oI p0, oI p1, oI p2, oI p3, oI p4, oI p5, oI u0, oI u1, oI u2, oI v0, oI v1, oI v2, oR b107, oR b150, oR b194, oR b215, oR b296, oR b309, oI gt, oI lt, oU, oU, oU, oU] [(.int lt), (.int gt)] _
    by_cases z0 : gt = lt
    · skip
      refine XS.icmpNo X360.here hx rfl (hb hby at_272) rfl (teq (z0 : gt = lt)).2 ?_
      refine XS.iconst X360.here hx rfl (hb hby at_275) ?_
      refine XS.istore X360.here hx rfl (hb hby at_276) rfl (l' := #[oI p0, oI p1, oI p2, oI p3, oI p4, oI p5, oI u0, oI u1, oI u2, oI v0, oI v1, oI v2, oR b107, oR b150, oR b194, oR b215, oR b296, oR b309, oI gt, oI lt, oI 0, oU, oU, oU]) rfl ?_
      refine XS.goto X360.here hx rfl (pc0 := 278) (pc' := 295) rfl (hb hby at_278) (by decide) (by decide) ?_
      rw [((own_r0 hex z0) : ex = (0 : Int32))] at kt
      exact kt
    · skip
      refine XS.icmpYes X360.here hx rfl (pc0 := 272) (pc' := 281) rfl (hb hby at_272) rfl (feq (z0 : ¬ (gt = lt))).2 (by decide) (by decide) ?_
      show own_S p e below T360 m 281 #[oI p0, oI p1, oI p2, oI p3, oI p4, oI p5, oI u0, oI u1, oI u2, oI v0, oI v1, oI v2, oR b107, oR b150, oR b194, oR b215, oR b296, oR b309, oI gt, oI lt, oU, oU, oU, oU] [] _
      refine XS.iload X360.here hx rfl (hb hby at_281) rfl ?_
      show own_S p e below T360 m 283 _ [(.int gt)] _
      by_cases z1 : gt = (0 : Int32)
      · skip
        refine XS.ifYes X360.here hx rfl (pc0 := 283) (pc' := 292) rfl (hb hby at_283) rfl ((if0 _ _).trans (teq (z1 : gt = (0 : Int32))).1) (by decide) (by decide) ?_
        refine XS.iconst X360.here hx rfl (hb hby at_292) ?_
        refine XS.istore X360.here hx rfl (hb hby at_293) rfl (l' := #[oI p0, oI p1, oI p2, oI p3, oI p4, oI p5, oI u0, oI u1, oI u2, oI v0, oI v1, oI v2, oR b107, oR b150, oR b194, oR b215, oR b296, oR b309, oI gt, oI lt, oI (-1), oU, oU, oU]) rfl ?_
        rw [((own_r1 hex z0 z1) : ex = (-1 : Int32))] at kt
        exact kt
      · skip
        refine XS.ifNo X360.here hx rfl (hb hby at_283) rfl ((if0 _ _).trans (feq (z1 : ¬ (gt = (0 : Int32)))).1) ?_
        refine XS.iconst X360.here hx rfl (hb hby at_286) ?_
        show own_S p e below T360 m 287 _ [(.int 1)] _
        refine XS.istore X360.here hx rfl (hb hby at_287) rfl (l' := #[oI p0, oI p1, oI p2, oI p3, oI p4, oI p5, oI u0, oI u1, oI u2, oI v0, oI v1, oI v2, oR b107, oR b150, oR b194, oR b215, oR b296, oR b309, oI gt, oI lt, oI 1, oU, oU, oU]) rfl ?_
        refine XS.goto X360.here hx rfl (pc0 := 289) (pc' := 295) rfl (hb hby at_289) (by decide) (by decide) ?_
        rw [((own_r2 hex z0 z1) : ex = (1 : Int32))] at kt
        exact kt
  obtain ⟨_, T369, L369, X369, hQ369, st369⟩ := own_cV X360 hx hZ294 hw how294 (b := b309) (W := 0) (rmm57 l Z a0 hw [] b309 (0 : Int32) (1 : Int32) va_360 kva_360 [(.double (own_i2 u0)), (.double (own_i2 u1)), (.double (own_i2 u2)), (.double (own_i2 v0)), (.double (own_i2 v1)), (.double (own_i2 v2))] u0 u1 u2 v0 v1 v2 (0 : Int64) T360.heap n0 ZZ362 (A309.keep P360_0) g_b309 P360_3 P360_2 P360_4 P360_5 P360_6 (⟨by decide, by decide⟩) (⟨by decide, by decide⟩) rfl rfl (⟨by decide, by decide⟩) (⟨by decide, by decide⟩) rfl rfl (⟨by decide, by decide⟩) (⟨by decide, by decide⟩) rfl rfl) (by decide) (by decide) (by decide) 425 rfl 426 rfl 428 rfl 427 rfl 429 rfl 321 rfl rfl (A309.keep P360_0) (g := (mkF m 299 #[oI p0, oI p1, oI p2, oI p3, oI p4, oI p5, oI u0, oI u1, oI u2, oI v0, oI v1, oI v2, oR b107, oR b150, oR b194, oR b215, oR b296, oR b309, oI gt, oI lt, oI ex, oU, oU, oU] [(.int 1), (.int 0), (.ref b309)])) rfl (by rw [hml]; rfl) (argsL := [(.int 0), (.int 1)]) (rest := []) (lenOf pd2 rfl) rfl (Nat.le_of_eq rfl) (hb hby at_299) rfl (cN := 41) rfl (by decide) (sN := 182) rfl (by decide)
  obtain ⟨rfl, Nq369, P369_0, P369_1, P369_2, P369_3⟩ := hQ369
  have N369 := Fr.app N360 Nq369
  have SK370 := Nat.le_trans SK361 P369_0.1
  have ZZ371 : n0 ≤ T369.heap.size := Nat.le_trans ZZ362 P369_0.1
  have Fc372 := ((A309.keep P360_0).keep P369_0)
  have nq373 : b309 ≠ va_360 := (Nat.ne_of_lt (Nat.lt_of_lt_of_le A309.lt P360_1))
  have Fc374 := (P360_5.keep P369_0 (ninS (Ne.symm nq373) nin0))
  obtain ⟨_, T375, L375, X375, hQ375, st375⟩ := own_cV X369 hx hZ294 hw how294 (b := b309) (W := 0) (rmm57 l Z a0 hw [] b309 (1 : Int32) (0 : Int32) va_360 kva_360 [(.double (own_i2 u0)), (.double (own_i2 u1)), (.double (own_i2 u2)), (.double (own_i2 v0)), (.double (own_i2 v1)), (.double (own_i2 v2))] v0 v1 v2 u0 u1 u2 ((0 : Int64) + (1 : Int64)) T369.heap n0 ZZ371 Fc372 g_b309 P369_1 P369_2 P369_3 Fc374 (P360_6.keep P369_0) (⟨by decide, by decide⟩) (⟨by decide, by decide⟩) rfl rfl (⟨by decide, by decide⟩) (⟨by decide, by decide⟩) rfl rfl (⟨by decide, by decide⟩) (⟨by decide, by decide⟩) rfl rfl) (by decide) (by decide) (by decide) 425 rfl 426 rfl 428 rfl 427 rfl 429 rfl 321 rfl rfl Fc372 (g := (mkF m 308 #[oI p0, oI p1, oI p2, oI p3, oI p4, oI p5, oI u0, oI u1, oI u2, oI v0, oI v1, oI v2, oR b107, oR b150, oR b194, oR b215, oR b296, oR b309, oI gt, oI lt, oI ex, oI ex, oU, oU] [(.int 0), (.int 1), (.ref b309)])) rfl (by rw [hml]; rfl) (argsL := [(.int 1), (.int 0)]) (rest := []) (lenOf pd2 rfl) rfl (Nat.le_of_eq rfl) (hb hby at_308) rfl (cN := 41) rfl (by decide) (sN := 182) rfl (by decide)
  obtain ⟨rfl, Nq375, P375_0, P375_1, P375_2, P375_3⟩ := hQ375
  have N375 := Fr.app N369 Nq375
  have SK376 := Nat.le_trans SK370 P375_0.1
  have ZZ377 : n0 ≤ T375.heap.size := Nat.le_trans ZZ371 P375_0.1
  have Fc378 := (Fc374.keep P375_0 (ninS (Ne.symm nq373) nin0))
  have Fc379 := ((P360_6.keep P369_0).keep P375_0)
  obtain ⟨_, T380, L380, X380, hQ380, st380⟩ := own_cV X375 hx hZ294 hw how294 (b := b309) (W := 0) (rmm57 l Z a0 hw [] b309 (0 : Int32) (0 : Int32) va_360 kva_360 [(.double (own_i2 u0)), (.double (own_i2 u1)), (.double (own_i2 u2)), (.double (own_i2 v0)), (.double (own_i2 v1)), (.double (own_i2 v2))] u0 u1 u2 u0 u1 u2 (((0 : Int64) + (1 : Int64)) + (1 : Int64)) T375.heap n0 ZZ377 (Fc372.keep P375_0) g_b309 P375_1 P375_2 P375_3 Fc378 Fc379 (⟨by decide, by decide⟩) (⟨by decide, by decide⟩) rfl rfl (⟨by decide, by decide⟩) (⟨by decide, by decide⟩) rfl rfl (⟨by decide, by decide⟩) (⟨by decide, by decide⟩) rfl rfl) (by decide) (by decide) (by decide) 425 rfl 426 rfl 428 rfl 427 rfl 429 rfl 321 rfl rfl (Fc372.keep P375_0) (g := (mkF m 317 #[oI p0, oI p1, oI p2, oI p3, oI p4, oI p5, oI u0, oI u1, oI u2, oI v0, oI v1, oI v2, oR b107, oR b150, oR b194, oR b215, oR b296, oR b309, oI gt, oI lt, oI ex, oI ex, oI (-ex), oU] [(.int 0), (.int 0), (.ref b309)])) rfl (by rw [hml]; rfl) (argsL := [(.int 0), (.int 0)]) (rest := []) (lenOf pd2 rfl) rfl (Nat.le_of_eq rfl) (hb hby at_317) rfl (cN := 41) rfl (by decide) (sN := 182) rfl (by decide)
  obtain ⟨rfl, Nq380, P380_0, P380_1, P380_2, P380_3⟩ := hQ380
  have N380 := Fr.app N375 Nq380
  have SK381 := Nat.le_trans SK376 P380_0.1
  have ZZ382 : n0 ≤ T380.heap.size := Nat.le_trans ZZ377 P380_0.1
  have Fc384 := ((Fc372.keep P375_0).keep P380_0)
  obtain ⟨_, T383, L383, X383, hQ383, st383⟩ := own_cV X380 hx hZ294 hw how294 (b := b309) (W := 0) (rmm59 l Z a0 hw [] b309 ((((0 : Int64) + (1 : Int64)) + (1 : Int64)) + (1 : Int64)) T380.heap n0 ZZ382 P380_3) (by decide) (by decide) (by decide) 436 rfl 437 rfl 439 rfl 438 rfl 440 rfl 321 rfl rfl Fc384 (g := (mkF m 344 #[oI p0, oI p1, oI p2, oI p3, oI p4, oI p5, oI u0, oI u1, oI u2, oI v0, oI v1, oI v2, oR b107, oR b150, oR b194, oR b215, oR b296, oR b309, oI gt, oI lt, oI ex, oI ex, oI (-ex), oI 0] [(.ref b309)])) rfl (by rw [hml]; rfl) (argsL := []) (rest := []) (lenOf pd34 rfl) rfl (Nat.le_of_eq rfl) (hb hby at_344) rfl (cN := 41) rfl (by decide) (sN := 182) rfl (by decide)
  obtain ⟨rfl, Nq383, P383_0⟩ := hQ383
  have N383 := Fr.app N380 Nq383
  obtain ⟨fs, hr, hrun, hended, hREW⟩ := X383.leaveW hS294 (by rw [P383_0]; exact SK381) (v := some (.int 1)) (fun h => by rw [Bd.returns] at h; cases h)
  refine ⟨_, _, pre0 _ (pre368 _ ?_), hrun, hended, _, _, rfl, ?_, hREW.1, hREW.2.1, hREW.2.2.1, hREW.2.2.2.mono (by decide) (by decide)⟩
  · show own_S p e below T360 m 295 #[oI p0, oI p1, oI p2, oI p3, oI p4, oI p5, oI u0, oI u1, oI u2, oI v0, oI v1, oI v2, oR b107, oR b150, oR b194, oR b215, oR b296, oR b309, oI gt, oI lt, oI ex, oU, oU, oU] [] _
    refine XS.aload X360.here hx rfl (hb hby at_295) rfl rfl ?_
    refine XS.iconst X360.here hx rfl (hb hby at_297) ?_
    refine XS.iconst X360.here hx rfl (hb hby at_298) ?_
    show own_S p e below T360 m 299 _ [(.int 1), (.int 0), (.ref b309)] _
    refine st369.trans ?_
    show own_S p e below T369 m 302 _ [(.int (own_rel u0 u1 u2 v0 v1 v2))] _
    refine reI ((own_x01 hgt hlt hex) : (own_rel u0 u1 u2 v0 v1 v2) = ex) ?_
    show own_S p e below T369 m 302 _ [(.int ex)] _
    refine XS.istore X369.here hx rfl (hb hby at_302) rfl (l' := #[oI p0, oI p1, oI p2, oI p3, oI p4, oI p5, oI u0, oI u1, oI u2, oI v0, oI v1, oI v2, oR b107, oR b150, oR b194, oR b215, oR b296, oR b309, oI gt, oI lt, oI ex, oI ex, oU, oU]) rfl ?_
    refine XS.aload X369.here hx rfl (hb hby at_304) rfl rfl ?_
    refine XS.iconst X369.here hx rfl (hb hby at_306) ?_
    refine XS.iconst X369.here hx rfl (hb hby at_307) ?_
    show own_S p e below T369 m 308 _ [(.int 0), (.int 1), (.ref b309)] _
    refine st375.trans ?_
    show own_S p e below T375 m 311 _ [(.int (own_rel v0 v1 v2 u0 u1 u2))] _
    refine reI ((own_x10 hgt hlt hex) : (own_rel v0 v1 v2 u0 u1 u2) = (-ex)) ?_
    show own_S p e below T375 m 311 _ [(.int (-ex))] _
    refine XS.istore X375.here hx rfl (hb hby at_311) rfl (l' := #[oI p0, oI p1, oI p2, oI p3, oI p4, oI p5, oI u0, oI u1, oI u2, oI v0, oI v1, oI v2, oR b107, oR b150, oR b194, oR b215, oR b296, oR b309, oI gt, oI lt, oI ex, oI ex, oI (-ex), oU]) rfl ?_
    refine XS.aload X375.here hx rfl (hb hby at_313) rfl rfl ?_
    refine XS.iconst X375.here hx rfl (hb hby at_315) ?_
    refine XS.iconst X375.here hx rfl (hb hby at_316) ?_
    show own_S p e below T375 m 317 _ [(.int 0), (.int 0), (.ref b309)] _
    refine st380.trans ?_
    show own_S p e below T380 m 320 _ [(.int (own_rel u0 u1 u2 u0 u1 u2))] _
    refine reI ((own_x00 u0 u1 u2) : (own_rel u0 u1 u2 u0 u1 u2) = (0 : Int32)) ?_
    show own_S p e below T380 m 320 _ [(.int 0)] _
    refine XS.istore X380.here hx rfl (hb hby at_320) rfl (l' := #[oI p0, oI p1, oI p2, oI p3, oI p4, oI p5, oI u0, oI u1, oI u2, oI v0, oI v1, oI v2, oR b107, oR b150, oR b194, oR b215, oR b296, oR b309, oI gt, oI lt, oI ex, oI ex, oI (-ex), oI 0]) rfl ?_
    refine XS.iload X380.here hx rfl (hb hby at_322) rfl ?_
    refine XS.iload X380.here hx rfl (hb hby at_324) rfl ?_
    refine XS.icmpNo X380.here hx rfl (hb hby at_326) rfl (teq (rfl : ex = ex)).2 ?_
    show own_S p e below T380 m 329 _ [] _
    refine XS.iload X380.here hx rfl (hb hby at_329) rfl ?_
    refine XS.iload X380.here hx rfl (hb hby at_331) rfl ?_
    show own_S p e below T380 m 333 _ [(.int ex), (.int (-ex))] _
    refine XS.ineg X380.here hx rfl (hb hby at_333) rfl ?_
    show own_S p e below T380 m 334 _ [(.int (-ex)), (.int (-ex))] _
    refine XS.icmpNo X380.here hx rfl (hb hby at_334) rfl (teq (rfl : (-ex) = (-ex))).2 ?_
    refine XS.iload X380.here hx rfl (hb hby at_337) rfl ?_
    refine XS.ifNo X380.here hx rfl (hb hby at_339) rfl ((if0 _ _).trans (teq (by decide : (0 : Int32) = (0 : Int32))).2) ?_
    refine XS.aload X380.here hx rfl (hb hby at_342) rfl rfl ?_
    show own_S p e below T380 m 344 _ [(.ref b309)] _
    refine st383.trans ?_
    show own_S p e below T383 m 347 _ [(.long ((((0 : Int64) + (1 : Int64)) + (1 : Int64)) + (1 : Int64)))] _
    refine X383.ldc2Long hx how294 (mvT hZ294 (own_w hw 441 rfl)) (g := (mkF m 347 #[oI p0, oI p1, oI p2, oI p3, oI p4, oI p5, oI u0, oI u1, oI u2, oI v0, oI v1, oI v2, oR b107, oR b150, oR b194, oR b215, oR b296, oR b309, oI gt, oI lt, oI ex, oI ex, oI (-ex), oI 0] [(.long ((((0 : Int64) + (1 : Int64)) + (1 : Int64)) + (1 : Int64)))])) rfl (hb hby at_347) _ ?_
    show own_S p e below T383 m 350 _ [(.long (3 : Int64)), (.long ((((0 : Int64) + (1 : Int64)) + (1 : Int64)) + (1 : Int64)))] _
    refine XS.lcmp X383.here hx rfl (hb hby at_350) rfl ?_
    show own_S p e below T383 m 351 _ [(.int (lcmpW ((((0 : Int64) + (1 : Int64)) + (1 : Int64)) + (1 : Int64)) (3 : Int64)))] _
    refine reI ((by decide) : (lcmpW ((((0 : Int64) + (1 : Int64)) + (1 : Int64)) + (1 : Int64)) (3 : Int64)) = (0 : Int32)) ?_
    show own_S p e below T383 m 351 #[oI p0, oI p1, oI p2, oI p3, oI p4, oI p5, oI u0, oI u1, oI u2, oI v0, oI v1, oI v2, oR b107, oR b150, oR b194, oR b215, oR b296, oR b309, oI gt, oI lt, oI ex, oI ex, oI (-ex), oI 0] [(.int 0)] _
    refine XS.ifNo X383.here hx rfl (hb hby at_351) rfl ((if0 _ _).trans (teq (by decide : (0 : Int32) = (0 : Int32))).2) ?_
    refine XS.iconst X383.here hx rfl (hb hby at_354) ?_
    refine XS.goto X383.here hx rfl (pc0 := 355) (pc' := 359) rfl (hb hby at_355) (by decide) (by decide) ?_
    show own_S p e below T383 m 359 _ [(.int 1)] _
    exact retN X383 hx (t := .boolean) Bd.returns (by simp) (hb hby at_359) hr
  · show Qm0 Z p0 p1 p2 p3 p4 p5 de kde em mr h0 n0 _ T383.heap _
    rw [P383_0]
    exact ⟨rfl, N383⟩
set_option maxRecDepth 65536 in
set_option maxHeartbeats 40000000 in
theorem comes_1 {Post : Tables → Env → Array Value → State → Outcome → State → Prop} (hpost : ∀ tb e args s v u, (limb_1_1.after args s (.returned v) u = true ∧ limb_1_2.after args s (.returned v) u = true ∧ True) → ReturnedEndW s (.returned v) u (Jvm.fieldLocs frame_1_writes args s ++ Jvm.arrayLocs frame_1_arrays args s ++ Jvm.staticLocs frame_1_statics s) 88 2432 → Post tb e args s (.returned v) u) :
    ArmFor flags0 classFile x code maxLocals ret World_1 tables_1 room_1 Calls_1 rest_1 Pre_1 Post := by
  intro l hfl _ _ p e ha hc hk s m args below hf hA hF happ hP
  obtain ⟨hcalls, hrest, hpre⟩ := hP
  obtain ⟨-, -, -, hnamed, -, -, -, hat⟩ := (Spec.applies_iff hf).mp happ
  obtain ⟨hg, hn⟩ := and_e (Cond.before_iff.mp (show (Jvm.Cond.and given_1 narrow_1).before args s = true from hpre))
  obtain ⟨hcount, hg0⟩ := and_e hg
  obtain ⟨hv0, hg1⟩ := and_e hg0
  obtain ⟨hv1, hg2⟩ := and_e hg1
  obtain ⟨hv2, hg3⟩ := and_e hg2
  obtain ⟨hv3, hg4⟩ := and_e hg3
  obtain ⟨hv4, hg5⟩ := and_e hg4
  obtain ⟨w0, w1, w2, w3, w4, w5, rfl⟩ : ∃ w0 w1 w2 w3 w4 w5 : Value, args = #[w0, w1, w2, w3, w4, w5] := by
    have hs : args.size = 6 := by simpa [Cond.value, given_1] using hcount
    obtain ⟨L⟩ := args
    match L, hs with
    | [w0, w1, w2, w3, w4, w5], _ => exact ⟨w0, w1, w2, w3, w4, w5, rfl⟩
  have hw := fun d (hd : d ∈ tables_1) => atoms_spec (ws := Jvm.Cond.code x code maxLocals ret :: tables_1) hat d (List.mem_cons_of_mem _ hd)
  have hfit : Fit s := fun {y c} hc i hi => by
    obtain ⟨ha, rfl⟩ := Array.getElem?_eq_some_iff.mp hc
    have q := List.all_eq_true.mp ((Array.all_eq_true_iff_forall_mem.mp hF) _ (Array.getElem_mem ha)) i (List.mem_range.mpr hi)
    simpa [Array.getElem?_eq_getElem hi] using q
  obtain ⟨hsets, hown0⟩ := atoms_of _ (rest_1_c_eq ▸ (show rest_1_c.before _ s = true from hrest))
  obtain ⟨i0, ei0⟩ := is_v hv0
  obtain rfl : w0 = (.int i0) := Option.some.inj ei0
  obtain ⟨i1, ei1⟩ := is_v hv1
  obtain rfl : w1 = (.int i1) := Option.some.inj ei1
  obtain ⟨i2, ei2⟩ := is_v hv2
  obtain rfl : w2 = (.int i2) := Option.some.inj ei2
  obtain ⟨i3, ei3⟩ := is_v hv3
  obtain rfl : w3 = (.int i3) := Option.some.inj ei3
  obtain ⟨i4, ei4⟩ := is_v hv4
  obtain rfl : w4 = (.int i4) := Option.some.inj ei4
  obtain ⟨i5, ei5⟩ := is_v hg5
  obtain rfl : w5 = (.int i5) := Option.some.inj ei5
  have hz6 := Cond.before_iff.mp (hsets _ (List.mem_of_getElem? (i := 6) rfl))
  obtain ⟨de, ede⟩ := arr_v hz6
  obtain ⟨cl, hAr⟩ := Arr.start ede hz6
  obtain ⟨hl1, hl2⟩ := Jvm.Free.IntBox.length_fwd (hsets _ (List.mem_of_getElem? (i := 8) rfl)) ede hAr.1 hAr.2.1 hAr.2.2
  have hVd : Arv s s.heap de cl.cls (.object kOB) (0 : Int32) [] .null := Arv.start hfit hAr hl1 hl2 (by decide) rfl trivial
  have hSd := Sta.start ede (Or.inr ⟨hw _ (List.mem_of_getElem? (i := 6) rfl), (hsets _ (List.mem_of_getElem? (i := 2) rfl))⟩)
  have hEd := Exa.start ede (Cond.before_iff.mp (hsets _ (List.mem_of_getElem? (i := 7) rfl)))
  have hz11 := Cond.before_iff.mp (hsets _ (List.mem_of_getElem? (i := 11) rfl))
  obtain ⟨em, eem⟩ := exa_v hz11
  have hSe := Sta.start eem (Or.inl (hsets _ (List.mem_of_getElem? (i := 10) rfl)))
  have hEe := Exa.start eem hz11
  obtain ⟨⟨mc0, mk0, mr, hm1, hm2, hm3, -⟩, -⟩ := hcalls
  have hMi : own_Mi s kOA mr := ⟨_, _, hm1, hm2, hm3⟩
  obtain ⟨n, o, h1, h2, h3, _, L, rfl, ⟨rfl, N⟩, hq⟩ := rmm0 l s _ hw tables_1 i0 i1 i2 i3 i4 i5 de cl.cls em mr s.heap s.heap.size (Nat.le_refl _) (Old.start s) hSd hVd hEd hSe hEe hMi p e ha hc hk s m _ below hf ((Spec.applies_iff_loose hf).mp happ).1 ⟨rfl, State.Warmed39.refl s, rfl⟩ trivial
  refine ⟨n, _, h1, h2, h3, hpost _ _ _ _ _ _ ⟨Cond.after_iff.mpr rfl, Cond.after_iff.mpr (eq_i res_at (Term.int_eval (1)) rfl), trivial⟩ ⟨hq.1, hq.2.1, hq.2.2.1, (hq.2.2.2.sift fun y hy => Or.inr (N y hy)).mono (by decide) (by decide)⟩⟩
theorem main_1_1 : Claimed_1_1 := comes_1 fun _ _ _ _ _ _ h hF => ⟨h.1, hF⟩
theorem main_1_2 : Claimed_1_2 := comes_1 fun _ _ _ _ _ _ h hF => ⟨h.2.1, hF⟩
end Jvm.Pilot.@@N@@
namespace Jvm.Pilot.@@N@@
open Jvm Jvm.ClassFile Sem Op Lib Jvm.Free Jvm.Stand Jvm.Pilot.@@N@@.Jvm.D
/-! MADE BY PROGRAM (witnessworld.py) out of the Statement's table words and the real class files: 44 classes; the members and pool entries that the words name. The judged class is class 1, her method 2. -/
namespace start1
open Jvm.ClassFile
def u (s : String) : CpInfo := .utf8 (stringToUtf16 s)
/-- a pool by its gaps: so many unusable entries, then the entry; so many at the end -/
def gap : Nat → List CpInfo → List CpInfo
  | 0, r => r
  | n + 1, r => .unusable :: gap n r
def poolList (es : List (Nat × CpInfo)) (last : Nat) : List CpInfo := es.foldr (fun e r => gap e.1 (e.2 :: r)) (gap last [])
def pool (es : List (Nat × CpInfo)) (last : Nat) : Array CpInfo := ⟨poolList es last⟩
def fileOf (pool : Array CpInfo) (this : Nat) (attrs : Array Attribute := #[]) (ms : Array MethodInfo := #[]) (fl : Nat := 33) (sup : Nat := 0) (ifs : Array Nat := #[]) (fds : Array FieldInfo := #[]) : ClassFile where
  minorVersion := 0
  majorVersion := 65
  constantPool := pool
  accessFlags := fl
  thisClass := this
  superClass := sup
  interfaces := ifs
  fields := fds
  methods := ms
  attributes := attrs
def plain (name : String) (sup : Option ClassId) : Class where
  name := name
  kind := .ordinary
  loader := none
  accessFlags := 33
  super := sup
  interfaces := #[]
  cf := none
  fields := #[]
  methods := #[]
  instanceTypes := #[]
  staticTypes := #[]
  resolved := #[]
  callSites := []
  init := .initialized
  statics := none
  mirror := none

def pool0 : Array CpInfo := pool [(5, u "<init>"), (0, u "()V"), (1, .class_ 10), (1, u "java/lang/Object"), (0, u "getClass"), (0, u "()Ljava/lang/Class;")] 111

def k0c0 : Code := { maxStack := 0, maxLocals := 1, code := object_method_1_code, exceptionTable := #[], attributes := #[] }
def k0m0 : Method := { name := "<init>", desc := "()V", sig := { parameters := [], returnType := none }, accessFlags := 1, code := some k0c0 }
def k0m1 : Method := { name := "getClass", desc := "()Ljava/lang/Class;", sig := { parameters := [], returnType := some (.object "java/lang/Class") }, accessFlags := 273, code := none }
/-- java/lang/Object -/
def k0 : Class := { plain "java/lang/Object" none with
  accessFlags := 33
  interfaces := #[]
  cf := some (fileOf pool0 8 #[] #[{ accessFlags := 1, nameIndex := 5, descriptorIndex := 6, attributes := #[] }, { accessFlags := 273, nameIndex := 11, descriptorIndex := 12, attributes := #[] }] 33 0 #[] #[])
  fields := #[]
  methods := #[k0m0, k0m1]
  instanceTypes := #[]
  staticTypes := #[]
  resolved := Array.replicate 124 none
  statics := none }

def pool1 : Array CpInfo := pool [(2, .class_ 4), (0, .nameAndType 5 6), (0, u "java/lang/Object"), (0, u "<init>"), (0, u "()V"), (0, .methodref 8 9), (0, .class_ 10), (0, .nameAndType 11 12), (0, u "com/example/matchwright/matchwright/core/InstanceVectorsComparePinLaw"), (0, u "s"), (0, u "(I)I"), (0, .class_ 14), (0, u "java/util/ArrayList"), (0, .methodref 13 3), (0, .methodref 17 18), (0, .class_ 19), (0, .nameAndType 20 21), (0, u "java/lang/Double"), (0, u "valueOf"), (0, u "(D)Ljava/lang/Double;"), (0, .interfaceMethodref 23 24), (0, .class_ 25), (0, .nameAndType 26 27), (0, u "java/util/List"), (0, u "add"), (0, u "(Ljava/lang/Object;)Z"), (0, .class_ 29), (0, u "com/example/matchwright/matchwright/core/MatchObject"), (0, .string 31), (0, u "m"), (0, .methodref 28 33), (0, .nameAndType 5 34), (0, u "(Ljava/lang/String;Ljava/util/List;)V"), (0, .class_ 36), (0, u "com/example/matchwright/matchwright/core/InstanceVectors"), (0, .methodref 35 38), (0, .nameAndType 5 39), (0, u "(Ljava/util/List;)V"), (0, .methodref 35 41), (0, .nameAndType 42 43), (0, u "compare"), (0, u "(II)I"), (0, .methodref 35 45), (0, .nameAndType 46 47), (0, u "checks"), (0, u "()J"), (0, .long 3), (3, u "law"), (0, u "(IIIIII)Z")] 3

def k1m0 : Method := { name := "<init>", desc := "()V", sig := { parameters := [], returnType := none }, accessFlags := 2, code := none }
def k1c1 : Code := { maxStack := 2, maxLocals := 1, code := method_2_code, exceptionTable := #[], attributes := #[] }
def k1m1 : Method := { name := "s", desc := "(I)I", sig := { parameters := [.int], returnType := some .int }, accessFlags := 10, code := some k1c1 }
def k1c2 : Code := { maxStack := 4, maxLocals := 24, code := code, exceptionTable := #[], attributes := #[] }
def k1m2 : Method := { name := "law", desc := "(IIIIII)Z", sig := { parameters := [.int, .int, .int, .int, .int, .int], returnType := some .boolean }, accessFlags := 9, code := some k1c2 }
/-- com/example/matchwright/matchwright/core/InstanceVectorsComparePinLaw -/
def k1 : Class := { plain "com/example/matchwright/matchwright/core/InstanceVectorsComparePinLaw" (some 0) with
  accessFlags := 49
  interfaces := #[]
  cf := some (fileOf pool1 8 #[] #[{ accessFlags := 2, nameIndex := 5, descriptorIndex := 6, attributes := #[] }, { accessFlags := 10, nameIndex := 11, descriptorIndex := 12, attributes := #[] }, { accessFlags := 9, nameIndex := 52, descriptorIndex := 53, attributes := #[] }] 49 2 #[] #[])
  fields := #[]
  methods := #[k1m0, k1m1, k1m2]
  instanceTypes := #[]
  staticTypes := #[]
  resolved := Array.replicate 57 none
  statics := none }

def pool2 : Array CpInfo := pool [(8, .class_ 10), (1, u "java/lang/Iterable"), (24, .class_ 36), (0, u "java/lang/Object")] 25

/-- java/lang/Iterable -/
def k2 : Class := { plain "java/lang/Iterable" (some 0) with
  accessFlags := 1537
  interfaces := #[]
  cf := some (fileOf pool2 8 #[] #[] 1537 35 #[] #[])
  fields := #[]
  methods := #[]
  instanceTypes := #[]
  staticTypes := #[]
  resolved := Array.replicate 62 none
  statics := none }

def pool3 : Array CpInfo := pool [(10, .class_ 12), (1, u "java/util/Collection"), (0, u "toArray"), (16, u "()Z"), (29, .class_ 61), (0, u "java/lang/Object"), (0, .class_ 63), (0, u "java/lang/Iterable"), (2, u "isEmpty"), (3, u "()[Ljava/lang/Object;")] 44

def k3m0 : Method := { name := "isEmpty", desc := "()Z", sig := { parameters := [], returnType := some .boolean }, accessFlags := 1025, code := none }
def k3m1 : Method := { name := "toArray", desc := "()[Ljava/lang/Object;", sig := { parameters := [], returnType := some (.array (.object "java/lang/Object")) }, accessFlags := 1025, code := none }
/-- java/util/Collection -/
def k3 : Class := { plain "java/util/Collection" (some 0) with
  accessFlags := 1537
  interfaces := #[2]
  cf := some (fileOf pool3 10 #[] #[{ accessFlags := 1025, nameIndex := 66, descriptorIndex := 30, attributes := #[] }, { accessFlags := 1025, nameIndex := 13, descriptorIndex := 70, attributes := #[] }] 1537 60 #[62] #[])
  fields := #[]
  methods := #[k3m0, k3m1]
  instanceTypes := #[]
  staticTypes := #[]
  resolved := Array.replicate 115 none
  statics := none }

def pool4 : Array CpInfo := pool [(1, .methodref 2 3), (0, .class_ 4), (0, .nameAndType 5 6), (0, u "java/lang/Object"), (0, u "<init>"), (0, u "()V"), (1, .class_ 10), (1, u "java/util/AbstractCollection"), (0, u "size"), (0, u "()I"), (64, .class_ 78), (0, u "java/util/Collection")] 81

def k4c0 : Code := { maxStack := 1, maxLocals := 1, code := jdk_22_method_1_code, exceptionTable := #[], attributes := #[] }
def k4m0 : Method := { name := "<init>", desc := "()V", sig := { parameters := [], returnType := none }, accessFlags := 4, code := some k4c0 }
def k4m1 : Method := { name := "size", desc := "()I", sig := { parameters := [], returnType := some .int }, accessFlags := 1025, code := none }
/-- java/util/AbstractCollection -/
def k4 : Class := { plain "java/util/AbstractCollection" (some 0) with
  accessFlags := 1057
  interfaces := #[3]
  cf := some (fileOf pool4 8 #[] #[{ accessFlags := 4, nameIndex := 5, descriptorIndex := 6, attributes := #[] }, { accessFlags := 1025, nameIndex := 11, descriptorIndex := 12, attributes := #[] }] 1057 2 #[77] #[])
  fields := #[]
  methods := #[k4m0, k4m1]
  instanceTypes := #[]
  staticTypes := #[]
  resolved := Array.replicate 160 none
  statics := none }

def pool5 : Array CpInfo := pool [(8, .class_ 10), (1, u "java/util/SequencedCollection"), (15, .class_ 27), (0, u "java/lang/Object"), (0, .class_ 29), (0, u "java/util/Collection")] 27

/-- java/util/SequencedCollection -/
def k5 : Class := { plain "java/util/SequencedCollection" (some 0) with
  accessFlags := 1537
  interfaces := #[3]
  cf := some (fileOf pool5 8 #[] #[] 1537 26 #[28] #[])
  fields := #[]
  methods := #[]
  instanceTypes := #[]
  staticTypes := #[]
  resolved := Array.replicate 57 none
  statics := none }

def pool6 : Array CpInfo := pool [(8, .class_ 10), (1, u "java/util/List"), (7, u "()Z"), (29, u "<init>"), (11, u "add"), (3, u "(Ljava/lang/Object;)Z"), (2, u "isEmpty"), (7, u "get"), (0, u "(I)Ljava/lang/Object;"), (2, u "size"), (0, u "()I"), (7, u "of"), (2, .class_ 93), (1, u "java/util/ImmutableCollections"), (2, .class_ 97), (0, u "java/util/ImmutableCollections$List12"), (2, .methodref 96 101), (0, .nameAndType 48 102), (0, u "(Ljava/lang/Object;Ljava/lang/Object;)V"), (0, .class_ 104), (0, u "java/lang/Object"), (3, u "([Ljava/lang/Object;)Ljava/util/List;"), (0, .methodref 91 110), (0, .nameAndType 111 108), (0, u "listFromArray"), (0, .methodref 91 113), (0, .nameAndType 114 115), (0, u "listCopy"), (0, u "(Ljava/util/Collection;)Ljava/util/List;"), (4, .class_ 121), (0, u "java/util/SequencedCollection"), (1, u "iterator"), (0, u "()Ljava/util/Iterator;"), (109, u "copyOf")] 16

def k6m0 : Method := { name := "size", desc := "()I", sig := { parameters := [], returnType := some .int }, accessFlags := 1025, code := none }
def k6m1 : Method := { name := "isEmpty", desc := "()Z", sig := { parameters := [], returnType := some .boolean }, accessFlags := 1025, code := none }
def k6m2 : Method := { name := "iterator", desc := "()Ljava/util/Iterator;", sig := { parameters := [], returnType := some (.object "java/util/Iterator") }, accessFlags := 1025, code := none }
def k6m3 : Method := { name := "add", desc := "(Ljava/lang/Object;)Z", sig := { parameters := [(.object "java/lang/Object")], returnType := some .boolean }, accessFlags := 1025, code := none }
def k6m4 : Method := { name := "get", desc := "(I)Ljava/lang/Object;", sig := { parameters := [.int], returnType := some (.object "java/lang/Object") }, accessFlags := 1025, code := none }
def k6c5 : Code := { maxStack := 5, maxLocals := 2, code := jdk_40_method_47_code, exceptionTable := #[], attributes := #[] }
def k6m5 : Method := { name := "of", desc := "([Ljava/lang/Object;)Ljava/util/List;", sig := { parameters := [(.array (.object "java/lang/Object"))], returnType := some (.object "java/util/List") }, accessFlags := 137, code := some k6c5 }
def k6c6 : Code := { maxStack := 1, maxLocals := 1, code := jdk_40_method_48_code, exceptionTable := #[], attributes := #[] }
def k6m6 : Method := { name := "copyOf", desc := "(Ljava/util/Collection;)Ljava/util/List;", sig := { parameters := [(.object "java/util/Collection")], returnType := some (.object "java/util/List") }, accessFlags := 9, code := some k6c6 }
/-- java/util/List -/
def k6 : Class := { plain "java/util/List" (some 0) with
  accessFlags := 1537
  interfaces := #[5]
  cf := some (fileOf pool6 8 #[] #[{ accessFlags := 1025, nameIndex := 79, descriptorIndex := 80, attributes := #[] }, { accessFlags := 1025, nameIndex := 67, descriptorIndex := 18, attributes := #[] }, { accessFlags := 1025, nameIndex := 123, descriptorIndex := 124, attributes := #[] }, { accessFlags := 1025, nameIndex := 60, descriptorIndex := 64, attributes := #[] }, { accessFlags := 1025, nameIndex := 75, descriptorIndex := 76, attributes := #[] }, { accessFlags := 137, nameIndex := 88, descriptorIndex := 108, attributes := #[] }, { accessFlags := 9, nameIndex := 234, descriptorIndex := 115, attributes := #[] }] 1537 103 #[120] #[])
  fields := #[]
  methods := #[k6m0, k6m1, k6m2, k6m3, k6m4, k6m5, k6m6]
  instanceTypes := #[]
  staticTypes := #[]
  resolved := Array.replicate 251 none
  statics := none }

def pool7 : Array CpInfo := pool [(1, .methodref 2 3), (0, .class_ 4), (0, .nameAndType 5 6), (0, u "java/util/AbstractCollection"), (0, u "<init>"), (0, u "()V"), (0, .fieldref 8 9), (0, .class_ 10), (0, .nameAndType 11 12), (0, u "java/util/AbstractList"), (0, u "modCount"), (0, u "I"), (64, .class_ 78), (0, u "java/util/AbstractList$Itr"), (3, .class_ 83), (0, u "java/util/AbstractList$ListItr"), (9, .class_ 94), (0, u "java/util/AbstractList$RandomAccessSubList"), (3, .class_ 99), (0, u "java/util/AbstractList$SubList"), (33, .class_ 134), (0, u "java/util/List"), (73, .class_ 209), (0, u "java/util/AbstractList$SubList$1"), (0, .class_ 211), (0, u "java/util/AbstractList$RandomAccessSpliterator")] 6

def k7c0 : Code := { maxStack := 2, maxLocals := 1, code := jdk_39_method_1_code, exceptionTable := #[], attributes := #[] }
def k7m0 : Method := { name := "<init>", desc := "()V", sig := { parameters := [], returnType := none }, accessFlags := 4, code := some k7c0 }
/-- java/util/AbstractList -/
def k7 : Class := { plain "java/util/AbstractList" (some 4) with
  accessFlags := 1057
  interfaces := #[6]
  cf := some (fileOf pool7 8 #[.nestMembers #[93, 98, 208, 210, 82, 77]] #[{ accessFlags := 4, nameIndex := 5, descriptorIndex := 6, attributes := #[] }] 1057 2 #[133] #[{ accessFlags := 132, nameIndex := 11, descriptorIndex := 12, attributes := #[] }])
  fields := #[{ name := "modCount", type := .int, accessFlags := 132, slot := 0, constantValue := 0 }]
  methods := #[k7m0]
  instanceTypes := #[.int]
  staticTypes := #[]
  resolved := Array.replicate 218 none
  statics := none }

def pool8 : Array CpInfo := pool [(1, .class_ 2), (0, u "java/util/RandomAccess"), (0, .class_ 4), (0, u "java/lang/Object")] 2

/-- java/util/RandomAccess -/
def k8 : Class := { plain "java/util/RandomAccess" (some 0) with
  accessFlags := 1537
  interfaces := #[]
  cf := some (fileOf pool8 1 #[] #[] 1537 3 #[] #[])
  fields := #[]
  methods := #[]
  instanceTypes := #[]
  staticTypes := #[]
  resolved := Array.replicate 7 none
  statics := none }

def pool9 : Array CpInfo := pool [(1, .class_ 2), (0, u "java/lang/Cloneable"), (0, .class_ 4), (0, u "java/lang/Object")] 2

/-- java/lang/Cloneable -/
def k9 : Class := { plain "java/lang/Cloneable" (some 0) with
  accessFlags := 1537
  interfaces := #[]
  cf := some (fileOf pool9 1 #[] #[] 1537 3 #[] #[])
  fields := #[]
  methods := #[]
  instanceTypes := #[]
  staticTypes := #[]
  resolved := Array.replicate 7 none
  statics := none }

def pool10 : Array CpInfo := pool [(1, .class_ 2), (0, u "java/io/Serializable"), (0, .class_ 4), (0, u "java/lang/Object")] 2

/-- java/io/Serializable -/
def k10 : Class := { plain "java/io/Serializable" (some 0) with
  accessFlags := 1537
  interfaces := #[]
  cf := some (fileOf pool10 1 #[] #[] 1537 3 #[] #[])
  fields := #[]
  methods := #[]
  instanceTypes := #[]
  staticTypes := #[]
  resolved := Array.replicate 7 none
  statics := none }

def pool11 : Array CpInfo := pool [(1, .methodref 2 3), (0, .class_ 4), (0, .nameAndType 5 6), (0, u "java/util/AbstractList"), (0, u "<init>"), (0, u "()V"), (0, .class_ 8), (0, u "java/lang/Object"), (0, .fieldref 10 11), (0, .class_ 12), (0, .nameAndType 13 14), (0, u "java/util/ArrayList"), (0, u "elementData"), (0, u "[Ljava/lang/Object;"), (2, u "EMPTY_ELEMENTDATA"), (21, .fieldref 10 40), (0, .nameAndType 41 14), (0, u "DEFAULTCAPACITY_EMPTY_ELEMENTDATA"), (4, u "toArray"), (0, u "()[Ljava/lang/Object;"), (0, .fieldref 10 49), (0, .nameAndType 50 51), (0, u "size"), (0, u "I"), (6, .class_ 60), (1, u "java/util/Arrays"), (0, u "copyOf"), (1, .fieldref 10 64), (0, .nameAndType 65 51), (0, u "modCount"), (0, .methodref 58 67), (0, .nameAndType 61 68), (0, u "([Ljava/lang/Object;I)[Ljava/lang/Object;"), (0, .methodref 10 70), (0, .nameAndType 71 72), (0, u "grow"), (0, u "(I)[Ljava/lang/Object;"), (6, .methodref 80 81), (0, .class_ 82), (0, .nameAndType 83 84), (0, u "java/lang/Math"), (0, u "max"), (0, u "(II)I"), (11, u "(Ljava/lang/Object;)Z"), (21, .methodref 119 120), (0, .class_ 121), (0, .nameAndType 122 84), (0, u "java/util/Objects"), (0, u "checkIndex"), (0, .methodref 10 124), (0, .nameAndType 13 125), (0, u "(I)Ljava/lang/Object;"), (3, .methodref 10 130), (0, .nameAndType 71 47), (0, .methodref 10 132), (0, .nameAndType 133 134), (0, u "add"), (0, u "(Ljava/lang/Object;[Ljava/lang/Object;I)V"), (3, u "(I)V"), (9, .class_ 149), (0, u "java/util/List"), (16, u "iterator"), (0, u "()Ljava/util/Iterator;"), (5, u "()Z"), (12, u "()I"), (75, .class_ 263), (0, u "java/util/ArrayList$ListItr"), (3, .class_ 268), (0, u "java/util/ArrayList$Itr"), (0, .methodref 267 270), (0, .nameAndType 5 271), (0, u "(Ljava/util/ArrayList;)V"), (4, .class_ 277), (0, u "java/util/ArrayList$SubList"), (12, .class_ 291), (0, u "java/util/ArrayList$ArrayListSpliterator"), (37, .class_ 330), (0, u "java/util/RandomAccess"), (0, .class_ 332), (0, u "java/lang/Cloneable"), (0, .class_ 334), (0, u "java/io/Serializable"), (0, u "serialVersionUID"), (0, u "J"), (3, u "DEFAULT_CAPACITY"), (22, u "isEmpty"), (17, u "get"), (118, .class_ 501), (0, u "java/util/ArrayList$SubList$2"), (0, .class_ 503), (0, u "java/util/ArrayList$SubList$1")] 5

def k11c0 : Code := { maxStack := 4, maxLocals := 2, code := jdk_38_method_1_code, exceptionTable := #[], attributes := #[] }
def k11m0 : Method := { name := "<init>", desc := "(I)V", sig := { parameters := [.int], returnType := none }, accessFlags := 1, code := some k11c0 }
def k11c1 : Code := { maxStack := 2, maxLocals := 1, code := jdk_38_method_2_code, exceptionTable := #[], attributes := #[] }
def k11m1 : Method := { name := "<init>", desc := "()V", sig := { parameters := [], returnType := none }, accessFlags := 1, code := some k11c1 }
def k11c2 : Code := { maxStack := 4, maxLocals := 4, code := jdk_38_method_6_code, exceptionTable := #[], attributes := #[] }
def k11m2 : Method := { name := "grow", desc := "(I)[Ljava/lang/Object;", sig := { parameters := [.int], returnType := some (.array (.object "java/lang/Object")) }, accessFlags := 2, code := some k11c2 }
def k11c3 : Code := { maxStack := 3, maxLocals := 1, code := jdk_38_method_7_code, exceptionTable := #[], attributes := #[] }
def k11m3 : Method := { name := "grow", desc := "()[Ljava/lang/Object;", sig := { parameters := [], returnType := some (.array (.object "java/lang/Object")) }, accessFlags := 2, code := some k11c3 }
def k11c4 : Code := { maxStack := 1, maxLocals := 1, code := jdk_38_method_8_code, exceptionTable := #[], attributes := #[] }
def k11m4 : Method := { name := "size", desc := "()I", sig := { parameters := [], returnType := some .int }, accessFlags := 1, code := some k11c4 }
def k11c5 : Code := { maxStack := 1, maxLocals := 1, code := jdk_38_method_9_code, exceptionTable := #[], attributes := #[] }
def k11m5 : Method := { name := "isEmpty", desc := "()Z", sig := { parameters := [], returnType := some .boolean }, accessFlags := 1, code := some k11c5 }
def k11c6 : Code := { maxStack := 2, maxLocals := 1, code := jdk_38_method_16_code, exceptionTable := #[], attributes := #[] }
def k11m6 : Method := { name := "toArray", desc := "()[Ljava/lang/Object;", sig := { parameters := [], returnType := some (.array (.object "java/lang/Object")) }, accessFlags := 1, code := some k11c6 }
def k11c7 : Code := { maxStack := 2, maxLocals := 2, code := jdk_38_method_18_code, exceptionTable := #[], attributes := #[] }
def k11m7 : Method := { name := "elementData", desc := "(I)Ljava/lang/Object;", sig := { parameters := [.int], returnType := some (.object "java/lang/Object") }, accessFlags := 0, code := some k11c7 }
def k11c8 : Code := { maxStack := 2, maxLocals := 2, code := jdk_38_method_20_code, exceptionTable := #[], attributes := #[] }
def k11m8 : Method := { name := "get", desc := "(I)Ljava/lang/Object;", sig := { parameters := [.int], returnType := some (.object "java/lang/Object") }, accessFlags := 1, code := some k11c8 }
def k11c9 : Code := { maxStack := 3, maxLocals := 4, code := jdk_38_method_24_code, exceptionTable := #[], attributes := #[] }
def k11m9 : Method := { name := "add", desc := "(Ljava/lang/Object;[Ljava/lang/Object;I)V", sig := { parameters := [(.object "java/lang/Object"), (.array (.object "java/lang/Object")), .int], returnType := none }, accessFlags := 2, code := some k11c9 }
def k11c10 : Code := { maxStack := 4, maxLocals := 2, code := jdk_38_method_25_code, exceptionTable := #[], attributes := #[] }
def k11m10 : Method := { name := "add", desc := "(Ljava/lang/Object;)Z", sig := { parameters := [(.object "java/lang/Object")], returnType := some .boolean }, accessFlags := 1, code := some k11c10 }
def k11c11 : Code := { maxStack := 3, maxLocals := 1, code := jdk_38_method_55_code, exceptionTable := #[], attributes := #[] }
def k11m11 : Method := { name := "iterator", desc := "()Ljava/util/Iterator;", sig := { parameters := [], returnType := some (.object "java/util/Iterator") }, accessFlags := 1, code := some k11c11 }
/-- java/util/ArrayList -/
def k11 : Class := { plain "java/util/ArrayList" (some 7) with
  accessFlags := 33
  interfaces := #[6, 8, 9, 10]
  cf := some (fileOf pool11 10 #[.nestMembers #[290, 276, 500, 502, 262, 267]] #[{ accessFlags := 1, nameIndex := 5, descriptorIndex := 138, attributes := #[] }, { accessFlags := 1, nameIndex := 5, descriptorIndex := 6, attributes := #[] }, { accessFlags := 2, nameIndex := 71, descriptorIndex := 72, attributes := #[] }, { accessFlags := 2, nameIndex := 71, descriptorIndex := 47, attributes := #[] }, { accessFlags := 1, nameIndex := 50, descriptorIndex := 186, attributes := #[] }, { accessFlags := 1, nameIndex := 363, descriptorIndex := 173, attributes := #[] }, { accessFlags := 1, nameIndex := 46, descriptorIndex := 47, attributes := #[] }, { accessFlags := 0, nameIndex := 13, descriptorIndex := 125, attributes := #[] }, { accessFlags := 1, nameIndex := 381, descriptorIndex := 125, attributes := #[] }, { accessFlags := 2, nameIndex := 133, descriptorIndex := 134, attributes := #[] }, { accessFlags := 1, nameIndex := 133, descriptorIndex := 96, attributes := #[] }, { accessFlags := 1, nameIndex := 166, descriptorIndex := 167, attributes := #[] }] 33 2 #[148, 329, 331, 333] #[{ accessFlags := 26, nameIndex := 335, descriptorIndex := 336, attributes := #[] }, { accessFlags := 26, nameIndex := 340, descriptorIndex := 51, attributes := #[] }, { accessFlags := 26, nameIndex := 17, descriptorIndex := 14, attributes := #[] }, { accessFlags := 26, nameIndex := 41, descriptorIndex := 14, attributes := #[] }, { accessFlags := 128, nameIndex := 13, descriptorIndex := 14, attributes := #[] }, { accessFlags := 2, nameIndex := 50, descriptorIndex := 51, attributes := #[] }])
  fields := #[{ name := "serialVersionUID", type := .long, accessFlags := 26, slot := 0, constantValue := 0 }, { name := "DEFAULT_CAPACITY", type := .int, accessFlags := 26, slot := 1, constantValue := 0 }, { name := "EMPTY_ELEMENTDATA", type := (.array (.object "java/lang/Object")), accessFlags := 26, slot := 2, constantValue := 0 }, { name := "DEFAULTCAPACITY_EMPTY_ELEMENTDATA", type := (.array (.object "java/lang/Object")), accessFlags := 26, slot := 3, constantValue := 0 }, { name := "elementData", type := (.array (.object "java/lang/Object")), accessFlags := 128, slot := 1, constantValue := 0 }, { name := "size", type := .int, accessFlags := 2, slot := 2, constantValue := 0 }]
  methods := #[k11m0, k11m1, k11m2, k11m3, k11m4, k11m5, k11m6, k11m7, k11m8, k11m9, k11m10, k11m11]
  instanceTypes := #[.int, (.array (.object "java/lang/Object")), .int]
  staticTypes := #[.long, .int, (.array (.object "java/lang/Object")), (.array (.object "java/lang/Object"))]
  resolved := Array.replicate 509 none
  statics := some 0 }

def pool12 : Array CpInfo := pool [(1, .methodref 2 3), (0, .class_ 4), (0, .nameAndType 5 6), (0, u "java/lang/Object"), (0, u "<init>"), (0, u "()V"), (1, .class_ 10), (1, u "java/lang/Number"), (2, .class_ 14), (0, u "java/io/Serializable"), (0, u "serialVersionUID"), (0, u "J")] 20

def k12c0 : Code := { maxStack := 1, maxLocals := 1, code := jdk_18_method_1_code, exceptionTable := #[], attributes := #[] }
def k12m0 : Method := { name := "<init>", desc := "()V", sig := { parameters := [], returnType := none }, accessFlags := 1, code := some k12c0 }
/-- java/lang/Number -/
def k12 : Class := { plain "java/lang/Number" (some 0) with
  accessFlags := 1057
  interfaces := #[10]
  cf := some (fileOf pool12 8 #[] #[{ accessFlags := 1, nameIndex := 5, descriptorIndex := 6, attributes := #[] }] 1057 2 #[13] #[{ accessFlags := 26, nameIndex := 15, descriptorIndex := 16, attributes := #[] }])
  fields := #[{ name := "serialVersionUID", type := .long, accessFlags := 26, slot := 0, constantValue := 0 }]
  methods := #[k12m0]
  instanceTypes := #[]
  staticTypes := #[.long]
  resolved := Array.replicate 37 none
  statics := none }

def pool13 : Array CpInfo := pool [(1, .class_ 2), (0, u "java/lang/Comparable"), (0, .class_ 4), (0, u "java/lang/Object")] 7

/-- java/lang/Comparable -/
def k13 : Class := { plain "java/lang/Comparable" (some 0) with
  accessFlags := 1537
  interfaces := #[]
  cf := some (fileOf pool13 1 #[] #[] 1537 3 #[] #[])
  fields := #[]
  methods := #[]
  instanceTypes := #[]
  staticTypes := #[]
  resolved := Array.replicate 12 none
  statics := none }

def pool14 : Array CpInfo := pool [(1, .class_ 2), (0, u "java/lang/constant/Constable"), (0, .class_ 4), (0, u "java/lang/Object")] 6

/-- java/lang/constant/Constable -/
def k14 : Class := { plain "java/lang/constant/Constable" (some 0) with
  accessFlags := 1537
  interfaces := #[]
  cf := some (fileOf pool14 1 #[] #[] 1537 3 #[] #[])
  fields := #[]
  methods := #[]
  instanceTypes := #[]
  staticTypes := #[]
  resolved := Array.replicate 11 none
  statics := none }

def pool15 : Array CpInfo := pool [(1, .class_ 2), (0, u "java/lang/constant/ConstantDesc"), (0, .class_ 4), (0, u "java/lang/Object")] 32

/-- java/lang/constant/ConstantDesc -/
def k15 : Class := { plain "java/lang/constant/ConstantDesc" (some 0) with
  accessFlags := 1537
  interfaces := #[]
  cf := some (fileOf pool15 1 #[] #[] 1537 3 #[] #[])
  fields := #[]
  methods := #[]
  instanceTypes := #[]
  staticTypes := #[]
  resolved := Array.replicate 37 none
  statics := none }

def pool16 : Array CpInfo := pool [(1, .class_ 2), (0, u "java/lang/Double"), (10, u "isFinite"), (0, u "(D)Z"), (5, u "<init>"), (2, .class_ 25), (1, u "java/lang/Math"), (12, .methodref 23 39), (0, .nameAndType 40 41), (0, u "abs"), (0, u "(D)D"), (63, .methodref 1 106), (0, .nameAndType 20 107), (0, u "(D)V"), (3, .double 9218868437227405311), (1, .methodref 114 115), (0, .class_ 116), (0, .nameAndType 20 117), (0, u "java/lang/Number"), (0, u "()V"), (0, .fieldref 1 119), (0, .nameAndType 120 121), (0, u "value"), (0, u "D"), (51, u "TYPE"), (0, u "Ljava/lang/Class;"), (0, .class_ 176), (0, u "java/lang/Comparable"), (0, .class_ 178), (0, u "java/lang/constant/Constable"), (0, .class_ 180), (0, u "java/lang/constant/ConstantDesc"), (0, u "POSITIVE_INFINITY"), (3, u "NEGATIVE_INFINITY"), (2, u "NaN"), (2, u "MAX_VALUE"), (0, u "MIN_NORMAL"), (0, u "MIN_VALUE"), (2, u "SIZE"), (0, u "I"), (1, u "PRECISION"), (1, u "MAX_EXPONENT"), (1, u "MIN_EXPONENT"), (1, u "BYTES"), (3, u "serialVersionUID"), (0, u "J"), (14, u "valueOf"), (5, u "(D)Ljava/lang/Double;"), (23, u "doubleValue"), (0, u "()D")] 33

def k16c0 : Code := { maxStack := 4, maxLocals := 2, code := jdk_117_method_4_code, exceptionTable := #[], attributes := #[] }
def k16m0 : Method := { name := "valueOf", desc := "(D)Ljava/lang/Double;", sig := { parameters := [.double], returnType := some (.object "java/lang/Double") }, accessFlags := 9, code := some k16c0 }
def k16c1 : Code := { maxStack := 4, maxLocals := 2, code := jdk_117_method_8_code, exceptionTable := #[], attributes := #[] }
def k16m1 : Method := { name := "isFinite", desc := "(D)Z", sig := { parameters := [.double], returnType := some .boolean }, accessFlags := 9, code := some k16c1 }
def k16c2 : Code := { maxStack := 3, maxLocals := 3, code := jdk_117_method_9_code, exceptionTable := #[], attributes := #[] }
def k16m2 : Method := { name := "<init>", desc := "(D)V", sig := { parameters := [.double], returnType := none }, accessFlags := 1, code := some k16c2 }
def k16c3 : Code := { maxStack := 2, maxLocals := 1, code := jdk_117_method_19_code, exceptionTable := #[], attributes := #[] }
def k16m3 : Method := { name := "doubleValue", desc := "()D", sig := { parameters := [], returnType := some .double }, accessFlags := 1, code := some k16c3 }
/-- java/lang/Double -/
def k16 : Class := { plain "java/lang/Double" (some 12) with
  accessFlags := 49
  interfaces := #[13, 14, 15]
  cf := some (fileOf pool16 1 #[] #[{ accessFlags := 9, nameIndex := 225, descriptorIndex := 231, attributes := #[] }, { accessFlags := 9, nameIndex := 13, descriptorIndex := 14, attributes := #[] }, { accessFlags := 1, nameIndex := 20, descriptorIndex := 107, attributes := #[] }, { accessFlags := 1, nameIndex := 255, descriptorIndex := 256, attributes := #[] }] 49 114 #[175, 177, 179] #[{ accessFlags := 25, nameIndex := 181, descriptorIndex := 121, attributes := #[] }, { accessFlags := 25, nameIndex := 185, descriptorIndex := 121, attributes := #[] }, { accessFlags := 25, nameIndex := 188, descriptorIndex := 121, attributes := #[] }, { accessFlags := 25, nameIndex := 191, descriptorIndex := 121, attributes := #[] }, { accessFlags := 25, nameIndex := 192, descriptorIndex := 121, attributes := #[] }, { accessFlags := 25, nameIndex := 193, descriptorIndex := 121, attributes := #[] }, { accessFlags := 25, nameIndex := 196, descriptorIndex := 197, attributes := #[] }, { accessFlags := 25, nameIndex := 199, descriptorIndex := 197, attributes := #[] }, { accessFlags := 25, nameIndex := 201, descriptorIndex := 197, attributes := #[] }, { accessFlags := 25, nameIndex := 203, descriptorIndex := 197, attributes := #[] }, { accessFlags := 25, nameIndex := 205, descriptorIndex := 197, attributes := #[] }, { accessFlags := 25, nameIndex := 173, descriptorIndex := 174, attributes := #[] }, { accessFlags := 18, nameIndex := 120, descriptorIndex := 121, attributes := #[] }, { accessFlags := 26, nameIndex := 209, descriptorIndex := 210, attributes := #[] }])
  fields := #[{ name := "POSITIVE_INFINITY", type := .double, accessFlags := 25, slot := 0, constantValue := 0 }, { name := "NEGATIVE_INFINITY", type := .double, accessFlags := 25, slot := 1, constantValue := 0 }, { name := "NaN", type := .double, accessFlags := 25, slot := 2, constantValue := 0 }, { name := "MAX_VALUE", type := .double, accessFlags := 25, slot := 3, constantValue := 0 }, { name := "MIN_NORMAL", type := .double, accessFlags := 25, slot := 4, constantValue := 0 }, { name := "MIN_VALUE", type := .double, accessFlags := 25, slot := 5, constantValue := 0 }, { name := "SIZE", type := .int, accessFlags := 25, slot := 6, constantValue := 0 }, { name := "PRECISION", type := .int, accessFlags := 25, slot := 7, constantValue := 0 }, { name := "MAX_EXPONENT", type := .int, accessFlags := 25, slot := 8, constantValue := 0 }, { name := "MIN_EXPONENT", type := .int, accessFlags := 25, slot := 9, constantValue := 0 }, { name := "BYTES", type := .int, accessFlags := 25, slot := 10, constantValue := 0 }, { name := "TYPE", type := (.object "java/lang/Class"), accessFlags := 25, slot := 11, constantValue := 0 }, { name := "value", type := .double, accessFlags := 18, slot := 0, constantValue := 0 }, { name := "serialVersionUID", type := .long, accessFlags := 26, slot := 12, constantValue := 0 }]
  methods := #[k16m0, k16m1, k16m2, k16m3]
  instanceTypes := #[.double]
  staticTypes := #[.double, .double, .double, .double, .double, .double, .int, .int, .int, .int, .int, (.object "java/lang/Class"), .long]
  resolved := Array.replicate 290 none
  statics := none }

def pool17 : Array CpInfo := pool [(1, .class_ 2), (0, u "java/lang/Math"), (1, .class_ 6), (1, u "java/lang/Object"), (0, u "<init>"), (0, u "()V"), (5, u "(D)D"), (83, .class_ 100), (1, u "java/lang/Math$RandomNumberGeneratorHolder"), (23, u "abs"), (47, u "negativeZeroFloatBits"), (0, u "J"), (2, u "negativeZeroDoubleBits"), (21, u "max"), (2, u "min"), (43, u "$assertionsDisabled"), (0, u "Z"), (88, u "(II)I"), (2, u "twoToTheDoubleScaleDown"), (0, u "D"), (4, u "twoToTheDoubleScaleUp"), (9, u "E"), (3, u "PI"), (2, u "TAU"), (2, u "DEGREES_TO_RADIANS"), (0, u "RADIANS_TO_DEGREES"), (39, u "toIntExact"), (0, u "(J)I")] 53

def k17m0 : Method := { name := "<init>", desc := "()V", sig := { parameters := [], returnType := none }, accessFlags := 2, code := none }
def k17c1 : Code := { maxStack := 4, maxLocals := 2, code := jdk_29_method_43_code, exceptionTable := #[], attributes := #[] }
def k17m1 : Method := { name := "toIntExact", desc := "(J)I", sig := { parameters := [.long], returnType := some .int }, accessFlags := 9, code := some k17c1 }
def k17c2 : Code := { maxStack := 4, maxLocals := 2, code := jdk_29_method_64_code, exceptionTable := #[], attributes := #[] }
def k17m2 : Method := { name := "abs", desc := "(D)D", sig := { parameters := [.double], returnType := some .double }, accessFlags := 9, code := some k17c2 }
def k17c3 : Code := { maxStack := 2, maxLocals := 2, code := jdk_29_method_65_code, exceptionTable := #[], attributes := #[] }
def k17m3 : Method := { name := "max", desc := "(II)I", sig := { parameters := [.int, .int], returnType := some .int }, accessFlags := 9, code := some k17c3 }
def k17c4 : Code := { maxStack := 2, maxLocals := 2, code := jdk_29_method_69_code, exceptionTable := #[], attributes := #[] }
def k17m4 : Method := { name := "min", desc := "(II)I", sig := { parameters := [.int, .int], returnType := some .int }, accessFlags := 9, code := some k17c4 }
/-- java/lang/Math -/
def k17 : Class := { plain "java/lang/Math" (some 0) with
  accessFlags := 49
  interfaces := #[]
  cf := some (fileOf pool17 1 #[.nestMembers #[98]] #[{ accessFlags := 2, nameIndex := 7, descriptorIndex := 8, attributes := #[] }, { accessFlags := 9, nameIndex := 405, descriptorIndex := 406, attributes := #[] }, { accessFlags := 9, nameIndex := 124, descriptorIndex := 14, attributes := #[] }, { accessFlags := 9, nameIndex := 198, descriptorIndex := 335, attributes := #[] }, { accessFlags := 9, nameIndex := 201, descriptorIndex := 335, attributes := #[] }] 49 4 #[] #[{ accessFlags := 25, nameIndex := 354, descriptorIndex := 339, attributes := #[] }, { accessFlags := 25, nameIndex := 358, descriptorIndex := 339, attributes := #[] }, { accessFlags := 25, nameIndex := 361, descriptorIndex := 339, attributes := #[] }, { accessFlags := 26, nameIndex := 364, descriptorIndex := 339, attributes := #[] }, { accessFlags := 26, nameIndex := 365, descriptorIndex := 339, attributes := #[] }, { accessFlags := 26, nameIndex := 172, descriptorIndex := 173, attributes := #[] }, { accessFlags := 26, nameIndex := 176, descriptorIndex := 173, attributes := #[] }, { accessFlags := 8, nameIndex := 344, descriptorIndex := 339, attributes := #[] }, { accessFlags := 8, nameIndex := 338, descriptorIndex := 339, attributes := #[] }, { accessFlags := 4120, nameIndex := 245, descriptorIndex := 246, attributes := #[] }])
  fields := #[{ name := "E", type := .double, accessFlags := 25, slot := 0, constantValue := 0 }, { name := "PI", type := .double, accessFlags := 25, slot := 1, constantValue := 0 }, { name := "TAU", type := .double, accessFlags := 25, slot := 2, constantValue := 0 }, { name := "DEGREES_TO_RADIANS", type := .double, accessFlags := 26, slot := 3, constantValue := 0 }, { name := "RADIANS_TO_DEGREES", type := .double, accessFlags := 26, slot := 4, constantValue := 0 }, { name := "negativeZeroFloatBits", type := .long, accessFlags := 26, slot := 5, constantValue := 0 }, { name := "negativeZeroDoubleBits", type := .long, accessFlags := 26, slot := 6, constantValue := 0 }, { name := "twoToTheDoubleScaleUp", type := .double, accessFlags := 8, slot := 7, constantValue := 0 }, { name := "twoToTheDoubleScaleDown", type := .double, accessFlags := 8, slot := 8, constantValue := 0 }, { name := "$assertionsDisabled", type := .boolean, accessFlags := 4120, slot := 9, constantValue := 0 }]
  methods := #[k17m0, k17m1, k17m2, k17m3, k17m4]
  instanceTypes := #[]
  staticTypes := #[.double, .double, .double, .double, .double, .long, .long, .double, .double, .boolean]
  resolved := Array.replicate 460 none
  statics := none }

def pool18 : Array CpInfo := pool [(1, .methodref 2 3), (0, .class_ 4), (0, .nameAndType 5 6), (0, u "java/lang/Object"), (0, u "<init>"), (0, u "()V"), (0, .class_ 8), (0, u "java/lang/Record")] 13

def k18c0 : Code := { maxStack := 1, maxLocals := 1, code := jdk_30_method_1_code, exceptionTable := #[], attributes := #[] }
def k18m0 : Method := { name := "<init>", desc := "()V", sig := { parameters := [], returnType := none }, accessFlags := 4, code := some k18c0 }
/-- java/lang/Record -/
def k18 : Class := { plain "java/lang/Record" (some 0) with
  accessFlags := 1057
  interfaces := #[]
  cf := some (fileOf pool18 7 #[] #[{ accessFlags := 4, nameIndex := 5, descriptorIndex := 6, attributes := #[] }] 1057 2 #[] #[])
  fields := #[]
  methods := #[k18m0]
  instanceTypes := #[]
  staticTypes := #[]
  resolved := Array.replicate 22 none
  statics := none }

def pool19 : Array CpInfo := pool [(1, .methodref 2 3), (0, .class_ 4), (0, .nameAndType 5 6), (0, u "java/lang/Record"), (0, u "<init>"), (0, u "()V"), (0, .string 8), (0, u "name"), (0, .methodref 10 11), (0, .class_ 12), (0, .nameAndType 13 14), (0, u "java/util/Objects"), (0, u "requireNonNull"), (0, u "(Ljava/lang/Object;Ljava/lang/String;)Ljava/lang/Object;"), (0, .interfaceMethodref 16 17), (0, .class_ 18), (0, .nameAndType 19 20), (0, u "java/util/List"), (0, u "isEmpty"), (0, u "()Z"), (9, .interfaceMethodref 16 31), (0, .nameAndType 32 33), (0, u "get"), (0, u "(I)Ljava/lang/Object;"), (0, .interfaceMethodref 16 35), (0, .nameAndType 36 37), (0, u "size"), (0, u "()I"), (0, .class_ 39), (0, u "java/util/ArrayList"), (0, .methodref 38 41), (0, .nameAndType 5 42), (0, u "(I)V"), (0, .interfaceMethodref 16 44), (0, .nameAndType 45 46), (0, u "iterator"), (0, u "()Ljava/util/Iterator;"), (0, .interfaceMethodref 48 49), (0, .class_ 50), (0, .nameAndType 51 20), (0, u "java/util/Iterator"), (0, u "hasNext"), (0, .interfaceMethodref 48 53), (0, .nameAndType 54 55), (0, u "next"), (0, u "()Ljava/lang/Object;"), (3, .class_ 60), (0, u "java/lang/Double"), (0, .methodref 59 62), (0, .nameAndType 63 64), (0, u "doubleValue"), (0, u "()D"), (0, .methodref 59 66), (0, .nameAndType 67 68), (0, u "isFinite"), (0, u "(D)Z"), (3, .interfaceMethodref 16 73), (0, .nameAndType 74 75), (0, u "copyOf"), (0, u "(Ljava/util/Collection;)Ljava/util/List;"), (0, .interfaceMethodref 16 77), (0, .nameAndType 78 79), (0, u "add"), (0, u "(Ljava/lang/Object;)Z"), (0, .fieldref 81 82), (0, .class_ 83), (0, .nameAndType 8 84), (0, u "com/example/matchwright/matchwright/core/MatchObject"), (0, u "Ljava/lang/String;"), (0, .fieldref 81 86), (0, .nameAndType 87 88), (0, u "vectors"), (0, u "Ljava/util/List;"), (2, u "()Ljava/util/List;"), (20, u "(Ljava/lang/String;Ljava/util/List;)V")] 46

def k19c0 : Code := { maxStack := 5, maxLocals := 10, code := prog_29_method_1_code, exceptionTable := #[], attributes := #[] }
def k19m0 : Method := { name := "<init>", desc := "(Ljava/lang/String;Ljava/util/List;)V", sig := { parameters := [(.object "java/lang/String"), (.object "java/util/List")], returnType := none }, accessFlags := 1, code := some k19c0 }
def k19c1 : Code := { maxStack := 1, maxLocals := 1, code := prog_29_method_7_code, exceptionTable := #[], attributes := #[] }
def k19m1 : Method := { name := "vectors", desc := "()Ljava/util/List;", sig := { parameters := [], returnType := some (.object "java/util/List") }, accessFlags := 1, code := some k19c1 }
/-- com/example/matchwright/matchwright/core/MatchObject -/
def k19 : Class := { plain "com/example/matchwright/matchwright/core/MatchObject" (some 18) with
  accessFlags := 49
  interfaces := #[]
  cf := some (fileOf pool19 81 #[] #[{ accessFlags := 1, nameIndex := 5, descriptorIndex := 112, attributes := #[] }, { accessFlags := 1, nameIndex := 87, descriptorIndex := 91, attributes := #[] }] 49 2 #[] #[{ accessFlags := 18, nameIndex := 8, descriptorIndex := 84, attributes := #[] }, { accessFlags := 18, nameIndex := 87, descriptorIndex := 88, attributes := #[] }])
  fields := #[{ name := "name", type := (.object "java/lang/String"), accessFlags := 18, slot := 0, constantValue := 0 }, { name := "vectors", type := (.object "java/util/List"), accessFlags := 18, slot := 1, constantValue := 0 }]
  methods := #[k19m0, k19m1]
  instanceTypes := #[(.object "java/lang/String"), (.object "java/util/List")]
  staticTypes := #[]
  resolved := Array.replicate 159 none
  statics := none }

def pool20 : Array CpInfo := pool [(2, .class_ 4), (1, u "java/lang/CharSequence"), (42, .class_ 48), (0, u "java/lang/CharSequence$1CodePointIterator"), (10, .class_ 60), (0, u "java/lang/CharSequence$1CharIterator"), (5, .class_ 67), (0, u "java/lang/Object")] 63

/-- java/lang/CharSequence -/
def k20 : Class := { plain "java/lang/CharSequence" (some 0) with
  accessFlags := 1537
  interfaces := #[]
  cf := some (fileOf pool20 2 #[.nestMembers #[47, 59]] #[] 1537 66 #[] #[])
  fields := #[]
  methods := #[]
  instanceTypes := #[]
  staticTypes := #[]
  resolved := Array.replicate 131 none
  statics := none }

def pool21 : Array CpInfo := pool [(2, .class_ 4), (1, u "java/lang/Object"), (0, u "<init>"), (0, u "()V"), (3, .class_ 12), (1, u "java/lang/String"), (0, u "value"), (0, u "[B"), (2, u "coder"), (0, u "B"), (2, u "hash"), (0, u "I"), (2, u "hashIsZero"), (0, u "Z"), (13, u "COMPACT_STRINGS"), (534, .class_ 576), (0, u "java/lang/CharSequence"), (22, u "CASE_INSENSITIVE_ORDER"), (0, u "Ljava/util/Comparator;"), (500, u "serialPersistentFields"), (0, u "[Ljava/io/ObjectStreamField;"), (0, .class_ 1104), (0, u "java/lang/String$CaseInsensitiveComparator"), (1, .class_ 1107), (0, u "java/io/Serializable"), (0, .class_ 1109), (0, u "java/lang/Comparable"), (0, .class_ 1111), (0, u "java/lang/constant/Constable"), (0, .class_ 1113), (0, u "java/lang/constant/ConstantDesc"), (2, u "serialVersionUID"), (0, u "J"), (3, u "REPL"), (0, u "C"), (2, u "LATIN1"), (1, u "UTF16")] 323

def k21m0 : Method := { name := "<init>", desc := "()V", sig := { parameters := [], returnType := none }, accessFlags := 1, code := none }
/-- java/lang/String -/
def k21 : Class := { plain "java/lang/String" (some 0) with
  accessFlags := 49
  interfaces := #[10, 13, 20, 14, 15]
  cf := some (fileOf pool21 10 #[.nestMembers #[1103]] #[{ accessFlags := 1, nameIndex := 5, descriptorIndex := 6, attributes := #[] }] 49 2 #[1106, 1108, 575, 1110, 1112] #[{ accessFlags := 18, nameIndex := 13, descriptorIndex := 14, attributes := #[] }, { accessFlags := 18, nameIndex := 17, descriptorIndex := 18, attributes := #[] }, { accessFlags := 2, nameIndex := 21, descriptorIndex := 22, attributes := #[] }, { accessFlags := 2, nameIndex := 25, descriptorIndex := 26, attributes := #[] }, { accessFlags := 26, nameIndex := 1116, descriptorIndex := 1117, attributes := #[] }, { accessFlags := 24, nameIndex := 40, descriptorIndex := 26, attributes := #[] }, { accessFlags := 26, nameIndex := 1101, descriptorIndex := 1102, attributes := #[] }, { accessFlags := 26, nameIndex := 1121, descriptorIndex := 1122, attributes := #[] }, { accessFlags := 25, nameIndex := 599, descriptorIndex := 600, attributes := #[] }, { accessFlags := 24, nameIndex := 1125, descriptorIndex := 18, attributes := #[] }, { accessFlags := 24, nameIndex := 1127, descriptorIndex := 18, attributes := #[] }])
  fields := #[{ name := "value", type := (.array .byte), accessFlags := 18, slot := 0, constantValue := 0 }, { name := "coder", type := .byte, accessFlags := 18, slot := 1, constantValue := 0 }, { name := "hash", type := .int, accessFlags := 2, slot := 2, constantValue := 0 }, { name := "hashIsZero", type := .boolean, accessFlags := 2, slot := 3, constantValue := 0 }, { name := "serialVersionUID", type := .long, accessFlags := 26, slot := 0, constantValue := 0 }, { name := "COMPACT_STRINGS", type := .boolean, accessFlags := 24, slot := 1, constantValue := 0 }, { name := "serialPersistentFields", type := (.array (.object "java/io/ObjectStreamField")), accessFlags := 26, slot := 2, constantValue := 0 }, { name := "REPL", type := .char, accessFlags := 26, slot := 3, constantValue := 0 }, { name := "CASE_INSENSITIVE_ORDER", type := (.object "java/util/Comparator"), accessFlags := 25, slot := 4, constantValue := 0 }, { name := "LATIN1", type := .byte, accessFlags := 24, slot := 5, constantValue := 0 }, { name := "UTF16", type := .byte, accessFlags := 24, slot := 6, constantValue := 0 }]
  methods := #[k21m0]
  instanceTypes := #[(.array .byte), .byte, .int, .boolean]
  staticTypes := #[.long, .boolean, (.array (.object "java/io/ObjectStreamField")), .char, (.object "java/util/Comparator"), .byte, .byte]
  resolved := Array.replicate 1451 none
  statics := none }

def pool22 : Array CpInfo := pool [(2, .class_ 4), (1, u "java/lang/Object"), (0, u "<init>"), (0, u "()V"), (35, .class_ 44), (1, u "java/util/Objects"), (0, u "requireNonNull"), (0, u "(Ljava/lang/Object;)Ljava/lang/Object;"), (47, u "(Ljava/lang/Object;Ljava/lang/String;)Ljava/lang/Object;"), (10, .methodref 106 107), (0, .class_ 108), (0, .nameAndType 109 110), (0, u "jdk/internal/util/Preconditions"), (0, u "checkIndex"), (0, u "(IILjava/util/function/BiFunction;)I"), (60, u "(II)I")] 12

def k22m0 : Method := { name := "<init>", desc := "()V", sig := { parameters := [], returnType := none }, accessFlags := 2, code := none }
def k22c1 : Code := { maxStack := 2, maxLocals := 1, code := jdk_31_method_10_code, exceptionTable := #[], attributes := #[] }
def k22m1 : Method := { name := "requireNonNull", desc := "(Ljava/lang/Object;)Ljava/lang/Object;", sig := { parameters := [(.object "java/lang/Object")], returnType := some (.object "java/lang/Object") }, accessFlags := 9, code := some k22c1 }
def k22c2 : Code := { maxStack := 3, maxLocals := 2, code := jdk_31_method_11_code, exceptionTable := #[], attributes := #[] }
def k22m2 : Method := { name := "requireNonNull", desc := "(Ljava/lang/Object;Ljava/lang/String;)Ljava/lang/Object;", sig := { parameters := [(.object "java/lang/Object"), (.object "java/lang/String")], returnType := some (.object "java/lang/Object") }, accessFlags := 9, code := some k22c2 }
def k22c3 : Code := { maxStack := 3, maxLocals := 2, code := jdk_31_method_17_code, exceptionTable := #[], attributes := #[] }
def k22m3 : Method := { name := "checkIndex", desc := "(II)I", sig := { parameters := [.int, .int], returnType := some .int }, accessFlags := 9, code := some k22c3 }
/-- java/util/Objects -/
def k22 : Class := { plain "java/util/Objects" (some 0) with
  accessFlags := 49
  interfaces := #[]
  cf := some (fileOf pool22 42 #[] #[{ accessFlags := 2, nameIndex := 5, descriptorIndex := 6, attributes := #[] }, { accessFlags := 9, nameIndex := 45, descriptorIndex := 46, attributes := #[] }, { accessFlags := 9, nameIndex := 45, descriptorIndex := 94, attributes := #[] }, { accessFlags := 9, nameIndex := 109, descriptorIndex := 171, attributes := #[] }] 49 2 #[] #[])
  fields := #[]
  methods := #[k22m0, k22m1, k22m2, k22m3]
  instanceTypes := #[]
  staticTypes := #[]
  resolved := Array.replicate 184 none
  statics := none }

def pool23 : Array CpInfo := pool [(2, .class_ 4), (1, u "java/lang/Object"), (0, u "<init>"), (0, u "()V"), (17, .class_ 26), (1, u "jdk/internal/util/Preconditions"), (6, u "checkIndex"), (21, .class_ 56), (0, u "jdk/internal/util/Preconditions$4"), (57, .class_ 115), (0, u "jdk/internal/util/Preconditions$1"), (7, u "SIOOBE_FORMATTER"), (0, u "Ljava/util/function/BiFunction;"), (0, .class_ 126), (0, u "jdk/internal/util/Preconditions$2"), (3, u "AIOOBE_FORMATTER"), (0, .class_ 132), (0, u "jdk/internal/util/Preconditions$3"), (3, u "IOOBE_FORMATTER"), (41, u "(IILjava/util/function/BiFunction;)I")] 15

def k23m0 : Method := { name := "<init>", desc := "()V", sig := { parameters := [], returnType := none }, accessFlags := 1, code := none }
def k23c1 : Code := { maxStack := 3, maxLocals := 3, code := jdk_41_method_11_code, exceptionTable := #[], attributes := #[] }
def k23m1 : Method := { name := "checkIndex", desc := "(IILjava/util/function/BiFunction;)I", sig := { parameters := [.int, .int, (.object "java/util/function/BiFunction")], returnType := some .int }, accessFlags := 9, code := some k23c1 }
/-- jdk/internal/util/Preconditions -/
def k23 : Class := { plain "jdk/internal/util/Preconditions" (some 0) with
  accessFlags := 33
  interfaces := #[]
  cf := some (fileOf pool23 24 #[.nestMembers #[55, 131, 125, 114]] #[{ accessFlags := 1, nameIndex := 5, descriptorIndex := 6, attributes := #[] }, { accessFlags := 9, nameIndex := 33, descriptorIndex := 178, attributes := #[] }] 33 2 #[] #[{ accessFlags := 25, nameIndex := 123, descriptorIndex := 124, attributes := #[] }, { accessFlags := 25, nameIndex := 130, descriptorIndex := 124, attributes := #[] }, { accessFlags := 25, nameIndex := 136, descriptorIndex := 124, attributes := #[] }])
  fields := #[{ name := "SIOOBE_FORMATTER", type := (.object "java/util/function/BiFunction"), accessFlags := 25, slot := 0, constantValue := 0 }, { name := "AIOOBE_FORMATTER", type := (.object "java/util/function/BiFunction"), accessFlags := 25, slot := 1, constantValue := 0 }, { name := "IOOBE_FORMATTER", type := (.object "java/util/function/BiFunction"), accessFlags := 25, slot := 2, constantValue := 0 }]
  methods := #[k23m0, k23m1]
  instanceTypes := #[]
  staticTypes := #[(.object "java/util/function/BiFunction"), (.object "java/util/function/BiFunction"), (.object "java/util/function/BiFunction")]
  resolved := Array.replicate 194 none
  statics := none }

def pool24 : Array CpInfo := pool [(16, .class_ 18), (1, u "java/util/Iterator"), (0, u "hasNext"), (0, u "()Z"), (2, u "next"), (0, u "()Ljava/lang/Object;"), (6, .class_ 32), (0, u "java/lang/Object")] 20

def k24m0 : Method := { name := "hasNext", desc := "()Z", sig := { parameters := [], returnType := some .boolean }, accessFlags := 1025, code := none }
def k24m1 : Method := { name := "next", desc := "()Ljava/lang/Object;", sig := { parameters := [], returnType := some (.object "java/lang/Object") }, accessFlags := 1025, code := none }
/-- java/util/Iterator -/
def k24 : Class := { plain "java/util/Iterator" (some 0) with
  accessFlags := 1537
  interfaces := #[]
  cf := some (fileOf pool24 16 #[] #[{ accessFlags := 1025, nameIndex := 19, descriptorIndex := 20, attributes := #[] }, { accessFlags := 1025, nameIndex := 23, descriptorIndex := 24, attributes := #[] }] 1537 31 #[] #[])
  fields := #[]
  methods := #[k24m0, k24m1]
  instanceTypes := #[]
  staticTypes := #[]
  resolved := Array.replicate 53 none
  statics := none }

def pool25 : Array CpInfo := pool [(1, .fieldref 2 3), (0, .class_ 4), (0, .nameAndType 5 6), (0, u "java/util/ArrayList$Itr"), (0, u "this$0"), (0, u "Ljava/util/ArrayList;"), (0, .methodref 8 9), (0, .class_ 10), (0, .nameAndType 11 12), (0, u "java/lang/Object"), (0, u "<init>"), (0, u "()V"), (0, .fieldref 2 14), (0, .nameAndType 15 16), (0, u "lastRet"), (0, u "I"), (0, .fieldref 18 19), (0, .class_ 20), (0, .nameAndType 21 16), (0, u "java/util/ArrayList"), (0, u "modCount"), (0, .fieldref 2 23), (0, .nameAndType 24 16), (0, u "expectedModCount"), (0, .fieldref 2 26), (0, .nameAndType 27 16), (0, u "cursor"), (0, .fieldref 18 29), (0, .nameAndType 30 16), (0, u "size"), (0, .methodref 2 32), (0, .nameAndType 33 12), (0, u "checkForComodification"), (3, .fieldref 18 38), (0, .nameAndType 39 40), (0, u "elementData"), (0, u "[Ljava/lang/Object;"), (28, .class_ 70), (0, u "java/util/Iterator"), (0, u "(Ljava/util/ArrayList;)V"), (8, u "hasNext"), (0, u "()Z"), (1, u "next"), (0, u "()Ljava/lang/Object;")] 19

def k25c0 : Code := { maxStack := 2, maxLocals := 2, code := jdk_49_method_1_code, exceptionTable := #[], attributes := #[] }
def k25m0 : Method := { name := "<init>", desc := "(Ljava/util/ArrayList;)V", sig := { parameters := [(.object "java/util/ArrayList")], returnType := none }, accessFlags := 0, code := some k25c0 }
def k25c1 : Code := { maxStack := 2, maxLocals := 1, code := jdk_49_method_2_code, exceptionTable := #[], attributes := #[] }
def k25m1 : Method := { name := "hasNext", desc := "()Z", sig := { parameters := [], returnType := some .boolean }, accessFlags := 1, code := some k25c1 }
def k25c2 : Code := { maxStack := 4, maxLocals := 3, code := jdk_49_method_3_code, exceptionTable := #[], attributes := #[] }
def k25m2 : Method := { name := "next", desc := "()Ljava/lang/Object;", sig := { parameters := [], returnType := some (.object "java/lang/Object") }, accessFlags := 1, code := some k25c2 }
def k25c3 : Code := { maxStack := 2, maxLocals := 1, code := jdk_49_method_6_code, exceptionTable := #[], attributes := #[] }
def k25m3 : Method := { name := "checkForComodification", desc := "()V", sig := { parameters := [], returnType := none }, accessFlags := 16, code := some k25c3 }
/-- java/util/ArrayList$Itr -/
def k25 : Class := { plain "java/util/ArrayList$Itr" (some 0) with
  accessFlags := 32
  interfaces := #[24]
  cf := some (fileOf pool25 2 #[.nestHost 18] #[{ accessFlags := 0, nameIndex := 11, descriptorIndex := 71, attributes := #[] }, { accessFlags := 1, nameIndex := 80, descriptorIndex := 81, attributes := #[] }, { accessFlags := 1, nameIndex := 83, descriptorIndex := 84, attributes := #[] }, { accessFlags := 16, nameIndex := 33, descriptorIndex := 12, attributes := #[] }] 32 8 #[69] #[{ accessFlags := 0, nameIndex := 27, descriptorIndex := 16, attributes := #[] }, { accessFlags := 0, nameIndex := 15, descriptorIndex := 16, attributes := #[] }, { accessFlags := 0, nameIndex := 24, descriptorIndex := 16, attributes := #[] }, { accessFlags := 4112, nameIndex := 5, descriptorIndex := 6, attributes := #[] }])
  fields := #[{ name := "cursor", type := .int, accessFlags := 0, slot := 0, constantValue := 0 }, { name := "lastRet", type := .int, accessFlags := 0, slot := 1, constantValue := 0 }, { name := "expectedModCount", type := .int, accessFlags := 0, slot := 2, constantValue := 0 }, { name := "this$0", type := (.object "java/util/ArrayList"), accessFlags := 4112, slot := 3, constantValue := 0 }]
  methods := #[k25m0, k25m1, k25m2, k25m3]
  instanceTypes := #[.int, .int, .int, (.object "java/util/ArrayList")]
  staticTypes := #[]
  resolved := Array.replicate 104 none
  statics := none }

def pool26 : Array CpInfo := pool [(2, .class_ 4), (1, u "java/lang/Object"), (0, u "<init>"), (0, u "()V"), (3, .class_ 11), (0, u "java/util/ImmutableCollections$List12"), (0, .class_ 13), (0, u "java/util/ImmutableCollections$ListN"), (3, u "Z"), (0, .class_ 19), (0, u "java/util/List"), (0, .interfaceMethodref 21 22), (0, .class_ 23), (0, .nameAndType 24 25), (0, u "java/util/Collection"), (0, u "isEmpty"), (0, u "()Z"), (2, u "of"), (1, .interfaceMethodref 21 31), (0, .nameAndType 32 33), (0, u "toArray"), (0, u "()[Ljava/lang/Object;"), (0, .interfaceMethodref 18 35), (0, .nameAndType 28 36), (0, u "([Ljava/lang/Object;)Ljava/util/List;"), (0, .methodref 38 39), (0, .class_ 40), (0, .nameAndType 41 42), (0, u "java/util/Objects"), (0, u "requireNonNull"), (0, u "(Ljava/lang/Object;)Ljava/lang/Object;"), (0, .methodref 12 44), (0, .nameAndType 5 45), (0, u "([Ljava/lang/Object;Z)V"), (1, .class_ 49), (1, u "java/util/ImmutableCollections"), (0, u "$assertionsDisabled"), (5, u "[Ljava/lang/Object;"), (5, u "EMPTY_LIST"), (0, u "Ljava/util/ImmutableCollections$ListN;"), (8, u "EMPTY_LIST_NULLS"), (22, u "SALT32L"), (0, u "J"), (2, u "REVERSE"), (6, u "archivedObjects"), (2, u "EMPTY"), (0, u "Ljava/lang/Object;"), (0, .class_ 112), (0, u "java/util/ImmutableCollections$SetN"), (5, u "EMPTY_SET"), (0, u "Ljava/util/ImmutableCollections$SetN;"), (0, .class_ 121), (0, u "java/util/ImmutableCollections$MapN"), (3, u "EMPTY_MAP"), (0, u "Ljava/util/ImmutableCollections$MapN;"), (4, u "EXPAND_FACTOR"), (0, u "I"), (9, u "listCopy"), (0, u "(Ljava/util/Collection;)Ljava/util/List;"), (7, u "listFromArray"), (17, .class_ 170), (0, u "java/util/ImmutableCollections$MapN$MapNIterator"), (0, .class_ 172), (0, u "java/util/ImmutableCollections$MapN$1"), (0, .class_ 174), (0, u "java/util/ImmutableCollections$Map1"), (0, .class_ 176), (0, u "java/util/ImmutableCollections$AbstractImmutableMap"), (0, .class_ 178), (0, u "java/util/ImmutableCollections$SetN$SetNIterator"), (0, .class_ 180), (0, u "java/util/ImmutableCollections$Set12"), (0, .class_ 182), (0, u "java/util/ImmutableCollections$Set12$1"), (0, .class_ 184), (0, u "java/util/ImmutableCollections$AbstractImmutableSet"), (0, .class_ 186), (0, u "java/util/ImmutableCollections$SubList"), (0, .class_ 188), (0, u "java/util/ImmutableCollections$ListItr"), (0, .class_ 190), (0, u "java/util/ImmutableCollections$AbstractImmutableList"), (0, .class_ 192), (0, u "java/util/ImmutableCollections$AbstractImmutableCollection"), (0, .class_ 194), (0, u "java/util/ImmutableCollections$Access"), (0, .class_ 196), (0, u "java/util/ImmutableCollections$Access$1")] 16

def k26m0 : Method := { name := "<init>", desc := "()V", sig := { parameters := [], returnType := none }, accessFlags := 2, code := none }
def k26c1 : Code := { maxStack := 1, maxLocals := 2, code := jdk_56_method_3_code, exceptionTable := #[], attributes := #[] }
def k26m1 : Method := { name := "listCopy", desc := "(Ljava/util/Collection;)Ljava/util/List;", sig := { parameters := [(.object "java/util/Collection")], returnType := some (.object "java/util/List") }, accessFlags := 8, code := some k26c1 }
def k26c2 : Code := { maxStack := 4, maxLocals := 3, code := jdk_56_method_4_code, exceptionTable := #[], attributes := #[] }
def k26m2 : Method := { name := "listFromArray", desc := "([Ljava/lang/Object;)Ljava/util/List;", sig := { parameters := [(.array (.object "java/lang/Object"))], returnType := some (.object "java/util/List") }, accessFlags := 136, code := some k26c2 }
/-- java/util/ImmutableCollections -/
def k26 : Class := { plain "java/util/ImmutableCollections" (some 0) with
  accessFlags := 32
  interfaces := #[]
  cf := some (fileOf pool26 47 #[.nestMembers #[120, 169, 171, 173, 175, 111, 177, 179, 181, 183, 12, 10, 185, 187, 189, 191, 193, 195]] #[{ accessFlags := 2, nameIndex := 5, descriptorIndex := 6, attributes := #[] }, { accessFlags := 8, nameIndex := 142, descriptorIndex := 143, attributes := #[] }, { accessFlags := 136, nameIndex := 151, descriptorIndex := 36, attributes := #[] }] 32 2 #[] #[{ accessFlags := 26, nameIndex := 95, descriptorIndex := 96, attributes := #[] }, { accessFlags := 26, nameIndex := 99, descriptorIndex := 17, attributes := #[] }, { accessFlags := 10, nameIndex := 106, descriptorIndex := 56, attributes := #[] }, { accessFlags := 26, nameIndex := 109, descriptorIndex := 110, attributes := #[] }, { accessFlags := 24, nameIndex := 62, descriptorIndex := 63, attributes := #[] }, { accessFlags := 24, nameIndex := 72, descriptorIndex := 63, attributes := #[] }, { accessFlags := 24, nameIndex := 118, descriptorIndex := 119, attributes := #[] }, { accessFlags := 24, nameIndex := 125, descriptorIndex := 126, attributes := #[] }, { accessFlags := 24, nameIndex := 131, descriptorIndex := 132, attributes := #[] }, { accessFlags := 4120, nameIndex := 50, descriptorIndex := 17, attributes := #[] }])
  fields := #[{ name := "SALT32L", type := .long, accessFlags := 26, slot := 0, constantValue := 0 }, { name := "REVERSE", type := .boolean, accessFlags := 26, slot := 1, constantValue := 0 }, { name := "archivedObjects", type := (.array (.object "java/lang/Object")), accessFlags := 10, slot := 2, constantValue := 0 }, { name := "EMPTY", type := (.object "java/lang/Object"), accessFlags := 26, slot := 3, constantValue := 0 }, { name := "EMPTY_LIST", type := (.object "java/util/ImmutableCollections$ListN"), accessFlags := 24, slot := 4, constantValue := 0 }, { name := "EMPTY_LIST_NULLS", type := (.object "java/util/ImmutableCollections$ListN"), accessFlags := 24, slot := 5, constantValue := 0 }, { name := "EMPTY_SET", type := (.object "java/util/ImmutableCollections$SetN"), accessFlags := 24, slot := 6, constantValue := 0 }, { name := "EMPTY_MAP", type := (.object "java/util/ImmutableCollections$MapN"), accessFlags := 24, slot := 7, constantValue := 0 }, { name := "EXPAND_FACTOR", type := .int, accessFlags := 24, slot := 8, constantValue := 0 }, { name := "$assertionsDisabled", type := .boolean, accessFlags := 4120, slot := 9, constantValue := 0 }]
  methods := #[k26m0, k26m1, k26m2]
  instanceTypes := #[]
  staticTypes := #[.long, .boolean, (.array (.object "java/lang/Object")), (.object "java/lang/Object"), (.object "java/util/ImmutableCollections$ListN"), (.object "java/util/ImmutableCollections$ListN"), (.object "java/util/ImmutableCollections$SetN"), (.object "java/util/ImmutableCollections$MapN"), .int, .boolean]
  resolved := Array.replicate 213 none
  statics := some 1 }

def pool27 : Array CpInfo := pool [(1, .methodref 2 3), (0, .class_ 4), (0, .nameAndType 5 6), (0, u "java/util/AbstractCollection"), (0, u "<init>"), (0, u "()V"), (1, .class_ 10), (1, u "java/util/ImmutableCollections"), (2, .class_ 14), (0, u "java/util/ImmutableCollections$AbstractImmutableCollection")] 41

def k27c0 : Code := { maxStack := 1, maxLocals := 1, code := jdk_47_method_1_code, exceptionTable := #[], attributes := #[] }
def k27m0 : Method := { name := "<init>", desc := "()V", sig := { parameters := [], returnType := none }, accessFlags := 0, code := some k27c0 }
/-- java/util/ImmutableCollections$AbstractImmutableCollection -/
def k27 : Class := { plain "java/util/ImmutableCollections$AbstractImmutableCollection" (some 4) with
  accessFlags := 1056
  interfaces := #[]
  cf := some (fileOf pool27 13 #[.nestHost 8] #[{ accessFlags := 0, nameIndex := 5, descriptorIndex := 6, attributes := #[] }] 1056 2 #[] #[])
  fields := #[]
  methods := #[k27m0]
  instanceTypes := #[]
  staticTypes := #[]
  resolved := Array.replicate 56 none
  statics := none }

def pool28 : Array CpInfo := pool [(1, .methodref 2 3), (0, .class_ 4), (0, .nameAndType 5 6), (0, u "java/util/ImmutableCollections$AbstractImmutableCollection"), (0, u "<init>"), (0, u "()V"), (1, .class_ 10), (1, u "java/util/ImmutableCollections"), (2, .methodref 14 15), (0, .class_ 16), (0, .nameAndType 17 18), (0, u "java/util/ImmutableCollections$AbstractImmutableList"), (0, u "size"), (0, u "()I"), (42, .class_ 62), (0, u "java/util/ImmutableCollections$ListItr"), (0, .methodref 61 64), (0, .nameAndType 5 65), (0, u "(Ljava/util/List;I)V"), (11, .class_ 78), (0, u "java/util/List"), (2, u "iterator"), (0, u "()Ljava/util/Iterator;"), (41, .class_ 125), (0, u "java/util/RandomAccess")] 70

def k28c0 : Code := { maxStack := 1, maxLocals := 1, code := jdk_46_method_1_code, exceptionTable := #[], attributes := #[] }
def k28m0 : Method := { name := "<init>", desc := "()V", sig := { parameters := [], returnType := none }, accessFlags := 0, code := some k28c0 }
def k28c1 : Code := { maxStack := 4, maxLocals := 1, code := jdk_46_method_10_code, exceptionTable := #[], attributes := #[] }
def k28m1 : Method := { name := "iterator", desc := "()Ljava/util/Iterator;", sig := { parameters := [], returnType := some (.object "java/util/Iterator") }, accessFlags := 1, code := some k28c1 }
/-- java/util/ImmutableCollections$AbstractImmutableList -/
def k28 : Class := { plain "java/util/ImmutableCollections$AbstractImmutableList" (some 27) with
  accessFlags := 1056
  interfaces := #[6, 8]
  cf := some (fileOf pool28 14 #[.nestHost 8] #[{ accessFlags := 0, nameIndex := 5, descriptorIndex := 6, attributes := #[] }, { accessFlags := 1, nameIndex := 81, descriptorIndex := 82, attributes := #[] }] 1056 2 #[77, 124] #[])
  fields := #[]
  methods := #[k28m0, k28m1]
  instanceTypes := #[]
  staticTypes := #[]
  resolved := Array.replicate 196 none
  statics := none }

def pool29 : Array CpInfo := pool [(1, .methodref 2 3), (0, .class_ 4), (0, .nameAndType 5 6), (0, u "java/util/ImmutableCollections$AbstractImmutableList"), (0, u "<init>"), (0, u "()V"), (0, .methodref 8 9), (0, .class_ 10), (0, .nameAndType 11 12), (0, u "java/util/Objects"), (0, u "requireNonNull"), (0, u "(Ljava/lang/Object;)Ljava/lang/Object;"), (0, .fieldref 14 15), (0, .class_ 16), (0, .nameAndType 17 18), (0, u "java/util/ImmutableCollections$List12"), (0, u "e0"), (0, u "Ljava/lang/Object;"), (0, .fieldref 20 21), (0, .class_ 22), (0, .nameAndType 23 18), (0, u "java/util/ImmutableCollections"), (0, u "EMPTY"), (0, .fieldref 14 25), (0, .nameAndType 26 18), (0, u "e1"), (24, u "size"), (0, u "()I"), (17, .class_ 71), (0, u "java/io/Serializable"), (13, u "(Ljava/lang/Object;Ljava/lang/Object;)V"), (4, u "get"), (0, u "(I)Ljava/lang/Object;")] 33

def k29c0 : Code := { maxStack := 2, maxLocals := 3, code := jdk_44_method_2_code, exceptionTable := #[], attributes := #[] }
def k29m0 : Method := { name := "<init>", desc := "(Ljava/lang/Object;Ljava/lang/Object;)V", sig := { parameters := [(.object "java/lang/Object"), (.object "java/lang/Object")], returnType := none }, accessFlags := 0, code := some k29c0 }
def k29c1 : Code := { maxStack := 2, maxLocals := 1, code := jdk_44_method_3_code, exceptionTable := #[], attributes := #[] }
def k29m1 : Method := { name := "size", desc := "()I", sig := { parameters := [], returnType := some .int }, accessFlags := 1, code := some k29c1 }
def k29c2 : Code := { maxStack := 2, maxLocals := 2, code := jdk_44_method_5_code, exceptionTable := #[], attributes := #[] }
def k29m2 : Method := { name := "get", desc := "(I)Ljava/lang/Object;", sig := { parameters := [.int], returnType := some (.object "java/lang/Object") }, accessFlags := 1, code := some k29c2 }
/-- java/util/ImmutableCollections$List12 -/
def k29 : Class := { plain "java/util/ImmutableCollections$List12" (some 28) with
  accessFlags := 48
  interfaces := #[10]
  cf := some (fileOf pool29 14 #[.nestHost 20] #[{ accessFlags := 0, nameIndex := 5, descriptorIndex := 85, attributes := #[] }, { accessFlags := 1, nameIndex := 51, descriptorIndex := 52, attributes := #[] }, { accessFlags := 1, nameIndex := 90, descriptorIndex := 91, attributes := #[] }] 48 2 #[70] #[{ accessFlags := 18, nameIndex := 17, descriptorIndex := 18, attributes := #[] }, { accessFlags := 18, nameIndex := 26, descriptorIndex := 18, attributes := #[] }])
  fields := #[{ name := "e0", type := (.object "java/lang/Object"), accessFlags := 18, slot := 0, constantValue := 0 }, { name := "e1", type := (.object "java/lang/Object"), accessFlags := 18, slot := 1, constantValue := 0 }]
  methods := #[k29m0, k29m1, k29m2]
  instanceTypes := #[(.object "java/lang/Object"), (.object "java/lang/Object")]
  staticTypes := #[]
  resolved := Array.replicate 125 none
  statics := none }

def pool30 : Array CpInfo := pool [(1, .methodref 2 3), (0, .class_ 4), (0, .nameAndType 5 6), (0, u "java/util/ImmutableCollections$AbstractImmutableList"), (0, u "<init>"), (0, u "()V"), (0, .fieldref 8 9), (0, .class_ 10), (0, .nameAndType 11 12), (0, u "java/util/ImmutableCollections$ListN"), (0, u "elements"), (0, u "[Ljava/lang/Object;"), (0, .fieldref 8 14), (0, .nameAndType 15 16), (0, u "allowNulls"), (0, u "Z"), (42, .class_ 60), (0, u "java/io/Serializable"), (4, u "([Ljava/lang/Object;Z)V"), (11, u "size"), (0, u "()I"), (0, u "get"), (0, u "(I)Ljava/lang/Object;"), (33, .class_ 115), (0, u "java/util/ImmutableCollections")] 3

def k30c0 : Code := { maxStack := 2, maxLocals := 3, code := jdk_45_method_1_code, exceptionTable := #[], attributes := #[] }
def k30m0 : Method := { name := "<init>", desc := "([Ljava/lang/Object;Z)V", sig := { parameters := [(.array (.object "java/lang/Object")), .boolean], returnType := none }, accessFlags := 2, code := some k30c0 }
def k30c1 : Code := { maxStack := 1, maxLocals := 1, code := jdk_45_method_3_code, exceptionTable := #[], attributes := #[] }
def k30m1 : Method := { name := "size", desc := "()I", sig := { parameters := [], returnType := some .int }, accessFlags := 1, code := some k30c1 }
def k30c2 : Code := { maxStack := 2, maxLocals := 2, code := jdk_45_method_4_code, exceptionTable := #[], attributes := #[] }
def k30m2 : Method := { name := "get", desc := "(I)Ljava/lang/Object;", sig := { parameters := [.int], returnType := some (.object "java/lang/Object") }, accessFlags := 1, code := some k30c2 }
/-- java/util/ImmutableCollections$ListN -/
def k30 : Class := { plain "java/util/ImmutableCollections$ListN" (some 28) with
  accessFlags := 48
  interfaces := #[10]
  cf := some (fileOf pool30 8 #[.nestHost 114] #[{ accessFlags := 2, nameIndex := 5, descriptorIndex := 65, attributes := #[] }, { accessFlags := 1, nameIndex := 77, descriptorIndex := 78, attributes := #[] }, { accessFlags := 1, nameIndex := 79, descriptorIndex := 80, attributes := #[] }] 48 2 #[59] #[{ accessFlags := 18, nameIndex := 11, descriptorIndex := 12, attributes := #[] }, { accessFlags := 18, nameIndex := 15, descriptorIndex := 16, attributes := #[] }])
  fields := #[{ name := "elements", type := (.array (.object "java/lang/Object")), accessFlags := 18, slot := 0, constantValue := 0 }, { name := "allowNulls", type := .boolean, accessFlags := 18, slot := 1, constantValue := 0 }]
  methods := #[k30m0, k30m1, k30m2]
  instanceTypes := #[(.array (.object "java/lang/Object")), .boolean]
  staticTypes := #[]
  resolved := Array.replicate 119 none
  statics := none }

def pool31 : Array CpInfo := pool [(2, .class_ 4), (1, u "java/lang/Object"), (0, u "<init>"), (0, u "()V"), (7, .class_ 16), (1, u "java/util/Arrays"), (57, .class_ 76), (1, u "java/util/Arrays$NaturalOrder"), (9, .methodref 2 87), (0, .nameAndType 88 89), (0, u "getClass"), (0, u "()Ljava/lang/Class;"), (20, .class_ 111), (0, u "[Ljava/lang/Object;"), (1, .class_ 115), (1, u "java/util/Arrays$LegacyMergeSort"), (1, u "Z"), (32, .methodref 151 152), (0, .class_ 153), (0, .nameAndType 154 155), (0, u "java/lang/System"), (0, u "arraycopy"), (0, u "(Ljava/lang/Object;ILjava/lang/Object;II)V"), (144, .methodref 14 301), (0, .nameAndType 302 303), (0, u "copyOf"), (0, u "([Ljava/lang/Object;ILjava/lang/Class;)[Ljava/lang/Object;"), (0, .methodref 305 306), (0, .class_ 307), (0, .nameAndType 308 309), (0, u "java/lang/Math"), (0, u "min"), (0, u "(II)I"), (65, .class_ 376), (0, u "java/util/Arrays$ArrayList"), (68, u "$assertionsDisabled"), (269, u "MIN_ARRAY_SORT_GRAN"), (0, u "I"), (2, u "INSERTIONSORT_THRESHOLD"), (140, u "([Ljava/lang/Object;I)[Ljava/lang/Object;"), (114, .class_ 976), (0, u "java/util/Arrays$ArrayItr")] 52

def k31m0 : Method := { name := "<init>", desc := "()V", sig := { parameters := [], returnType := none }, accessFlags := 2, code := none }
def k31c1 : Code := { maxStack := 3, maxLocals := 2, code := jdk_65_method_119_code, exceptionTable := #[], attributes := #[] }
def k31m1 : Method := { name := "copyOf", desc := "([Ljava/lang/Object;I)[Ljava/lang/Object;", sig := { parameters := [(.array (.object "java/lang/Object")), .int], returnType := some (.array (.object "java/lang/Object")) }, accessFlags := 9, code := some k31c1 }
def k31c2 : Code := { maxStack := 6, maxLocals := 4, code := jdk_65_method_120_code, exceptionTable := #[], attributes := #[] }
def k31m2 : Method := { name := "copyOf", desc := "([Ljava/lang/Object;ILjava/lang/Class;)[Ljava/lang/Object;", sig := { parameters := [(.array (.object "java/lang/Object")), .int, (.object "java/lang/Class")], returnType := some (.array (.object "java/lang/Object")) }, accessFlags := 9, code := some k31c2 }
/-- java/util/Arrays -/
def k31 : Class := { plain "java/util/Arrays" (some 0) with
  accessFlags := 49
  interfaces := #[]
  cf := some (fileOf pool31 14 #[.nestMembers #[975, 375, 113, 74]] #[{ accessFlags := 2, nameIndex := 5, descriptorIndex := 6, attributes := #[] }, { accessFlags := 9, nameIndex := 302, descriptorIndex := 860, attributes := #[] }, { accessFlags := 9, nameIndex := 302, descriptorIndex := 303, attributes := #[] }] 49 2 #[] #[{ accessFlags := 26, nameIndex := 715, descriptorIndex := 716, attributes := #[] }, { accessFlags := 26, nameIndex := 719, descriptorIndex := 716, attributes := #[] }, { accessFlags := 4120, nameIndex := 445, descriptorIndex := 117, attributes := #[] }])
  fields := #[{ name := "MIN_ARRAY_SORT_GRAN", type := .int, accessFlags := 26, slot := 0, constantValue := 0 }, { name := "INSERTIONSORT_THRESHOLD", type := .int, accessFlags := 26, slot := 1, constantValue := 0 }, { name := "$assertionsDisabled", type := .boolean, accessFlags := 4120, slot := 2, constantValue := 0 }]
  methods := #[k31m0, k31m1, k31m2]
  instanceTypes := #[]
  staticTypes := #[.int, .int, .boolean]
  resolved := Array.replicate 1029 none
  statics := none }

def pool32 : Array CpInfo := pool [(2, .class_ 4), (1, u "java/lang/Object"), (0, u "<init>"), (0, u "()V"), (1, .class_ 10), (1, u "java/lang/System"), (0, u "allowSecurityManager"), (0, u "I"), (16, u "cons"), (0, u "Ljava/io/Console;"), (77, .class_ 110), (1, u "java/lang/System$CallersHolder"), (43, u "initialErrStream"), (0, u "Ljava/io/PrintStream;"), (19, u "security"), (0, u "Ljava/lang/SecurityManager;"), (31, .class_ 209), (0, u "java/lang/System$1"), (7, u "props"), (0, u "Ljava/util/Properties;"), (2, u "lineSeparator"), (0, u "Ljava/lang/String;"), (96, .class_ 321), (1, u "java/lang/System$LoggerFinder"), (5, .class_ 328), (0, u "java/lang/System$Logger"), (67, u "err"), (2, u "out"), (91, u "notSupportedJnuEncoding"), (15, u "in"), (17, u "initialIn"), (0, u "Ljava/io/InputStream;"), (35, u "bootLayer"), (0, u "Ljava/lang/ModuleLayer;"), (99, .class_ 664), (0, u "java/lang/System$2"), (9, u "NEVER"), (2, u "MAYBE"), (49, u "arraycopy"), (0, u "(Ljava/lang/Object;ILjava/lang/Object;II)V"), (72, .class_ 802), (0, u "java/lang/System$Logger$Level")] 31

def k32m0 : Method := { name := "<init>", desc := "()V", sig := { parameters := [], returnType := none }, accessFlags := 2, code := none }
def k32m1 : Method := { name := "arraycopy", desc := "(Ljava/lang/Object;ILjava/lang/Object;II)V", sig := { parameters := [(.object "java/lang/Object"), .int, (.object "java/lang/Object"), .int, .int], returnType := none }, accessFlags := 265, code := none }
/-- java/lang/System -/
def k32 : Class := { plain "java/lang/System" (some 0) with
  accessFlags := 49
  interfaces := #[]
  cf := some (fileOf pool32 8 #[.nestMembers #[319, 327, 801, 108, 663, 208]] #[{ accessFlags := 2, nameIndex := 5, descriptorIndex := 6, attributes := #[] }, { accessFlags := 265, nameIndex := 727, descriptorIndex := 728, attributes := #[] }] 49 2 #[] #[{ accessFlags := 25, nameIndex := 507, descriptorIndex := 526, attributes := #[] }, { accessFlags := 25, nameIndex := 399, descriptorIndex := 155, attributes := #[] }, { accessFlags := 25, nameIndex := 396, descriptorIndex := 155, attributes := #[] }, { accessFlags := 10, nameIndex := 525, descriptorIndex := 526, attributes := #[] }, { accessFlags := 26, nameIndex := 674, descriptorIndex := 12, attributes := #[] }, { accessFlags := 26, nameIndex := 677, descriptorIndex := 12, attributes := #[] }, { accessFlags := 10, nameIndex := 11, descriptorIndex := 12, attributes := #[] }, { accessFlags := 74, nameIndex := 175, descriptorIndex := 176, attributes := #[] }, { accessFlags := 10, nameIndex := 491, descriptorIndex := 222, attributes := #[] }, { accessFlags := 74, nameIndex := 29, descriptorIndex := 30, attributes := #[] }, { accessFlags := 74, nameIndex := 154, descriptorIndex := 155, attributes := #[] }, { accessFlags := 10, nameIndex := 217, descriptorIndex := 218, attributes := #[] }, { accessFlags := 10, nameIndex := 221, descriptorIndex := 222, attributes := #[] }, { accessFlags := 8, nameIndex := 562, descriptorIndex := 563, attributes := #[] }])
  fields := #[{ name := "in", type := (.object "java/io/InputStream"), accessFlags := 25, slot := 0, constantValue := 0 }, { name := "out", type := (.object "java/io/PrintStream"), accessFlags := 25, slot := 1, constantValue := 0 }, { name := "err", type := (.object "java/io/PrintStream"), accessFlags := 25, slot := 2, constantValue := 0 }, { name := "initialIn", type := (.object "java/io/InputStream"), accessFlags := 10, slot := 3, constantValue := 0 }, { name := "NEVER", type := .int, accessFlags := 26, slot := 4, constantValue := 0 }, { name := "MAYBE", type := .int, accessFlags := 26, slot := 5, constantValue := 0 }, { name := "allowSecurityManager", type := .int, accessFlags := 10, slot := 6, constantValue := 0 }, { name := "security", type := (.object "java/lang/SecurityManager"), accessFlags := 74, slot := 7, constantValue := 0 }, { name := "notSupportedJnuEncoding", type := (.object "java/lang/String"), accessFlags := 10, slot := 8, constantValue := 0 }, { name := "cons", type := (.object "java/io/Console"), accessFlags := 74, slot := 9, constantValue := 0 }, { name := "initialErrStream", type := (.object "java/io/PrintStream"), accessFlags := 74, slot := 10, constantValue := 0 }, { name := "props", type := (.object "java/util/Properties"), accessFlags := 10, slot := 11, constantValue := 0 }, { name := "lineSeparator", type := (.object "java/lang/String"), accessFlags := 10, slot := 12, constantValue := 0 }, { name := "bootLayer", type := (.object "java/lang/ModuleLayer"), accessFlags := 8, slot := 13, constantValue := 0 }]
  methods := #[k32m0, k32m1]
  instanceTypes := #[]
  staticTypes := #[(.object "java/io/InputStream"), (.object "java/io/PrintStream"), (.object "java/io/PrintStream"), (.object "java/io/InputStream"), .int, .int, .int, (.object "java/lang/SecurityManager"), (.object "java/lang/String"), (.object "java/io/Console"), (.object "java/io/PrintStream"), (.object "java/util/Properties"), (.object "java/lang/String"), (.object "java/lang/ModuleLayer")]
  resolved := Array.replicate 834 none
  statics := none }

def pool33 : Array CpInfo := pool [(1, .methodref 2 3), (0, .class_ 4), (0, .nameAndType 5 6), (0, u "java/lang/Object"), (0, u "<init>"), (0, u "()V"), (0, .interfaceMethodref 8 9), (0, .class_ 10), (0, .nameAndType 11 12), (0, u "java/util/List"), (0, u "size"), (0, u "()I"), (0, .fieldref 14 15), (0, .class_ 16), (0, .nameAndType 17 18), (0, u "com/example/matchwright/matchwright/core/InstanceVectors"), (0, u "count"), (0, u "I"), (0, .interfaceMethodref 8 20), (0, .nameAndType 21 22), (0, u "isEmpty"), (0, u "()Z"), (0, .interfaceMethodref 8 24), (0, .nameAndType 25 26), (0, u "get"), (0, u "(I)Ljava/lang/Object;"), (0, .class_ 28), (0, u "com/example/matchwright/matchwright/core/MatchObject"), (0, .methodref 27 30), (0, .nameAndType 31 32), (0, u "vectors"), (0, u "()Ljava/util/List;"), (0, .fieldref 14 34), (0, .nameAndType 35 18), (0, u "instances"), (0, .fieldref 14 37), (0, .nameAndType 38 18), (0, u "dimension"), (0, .fieldref 14 40), (0, .nameAndType 31 18), (0, .methodref 42 43), (0, .class_ 44), (0, .nameAndType 45 46), (0, u "java/lang/Math"), (0, u "toIntExact"), (0, u "(J)I"), (0, .fieldref 14 48), (0, .nameAndType 49 50), (0, u "values"), (0, u "[D"), (0, .interfaceMethodref 8 52), (0, .nameAndType 53 54), (0, u "iterator"), (0, u "()Ljava/util/Iterator;"), (0, .interfaceMethodref 56 57), (0, .class_ 58), (0, .nameAndType 59 22), (0, u "java/util/Iterator"), (0, u "hasNext"), (0, .interfaceMethodref 56 61), (0, .nameAndType 62 63), (0, u "next"), (0, u "()Ljava/lang/Object;"), (0, .class_ 65), (0, u "java/lang/Double"), (0, .methodref 64 67), (0, .nameAndType 68 69), (0, u "doubleValue"), (0, u "()D"), (0, .fieldref 14 71), (0, .nameAndType 72 50), (0, u "sums"), (0, .methodref 14 74), (0, .nameAndType 75 76), (0, u "sumOf"), (0, u "(I)D"), (8, u "(II)I"), (39, u "compare"), (0, .fieldref 14 127), (0, .nameAndType 128 129), (0, u "checks"), (0, u "J"), (0, .methodref 14 131), (0, .nameAndType 132 85), (0, u "relation"), (0, u "(Ljava/util/List;)V"), (14, u "()J")] 2

def k33c0 : Code := { maxStack := 5, maxLocals := 10, code := prog_26_method_1_code, exceptionTable := #[], attributes := #[] }
def k33m0 : Method := { name := "<init>", desc := "(Ljava/util/List;)V", sig := { parameters := [(.object "java/util/List")], returnType := none }, accessFlags := 0, code := some k33c0 }
def k33c1 : Code := { maxStack := 5, maxLocals := 3, code := prog_26_method_11_code, exceptionTable := #[], attributes := #[] }
def k33m1 : Method := { name := "compare", desc := "(II)I", sig := { parameters := [.int, .int], returnType := some .int }, accessFlags := 0, code := some k33c1 }
def k33c2 : Code := { maxStack := 2, maxLocals := 1, code := prog_26_method_13_code, exceptionTable := #[], attributes := #[] }
def k33m2 : Method := { name := "checks", desc := "()J", sig := { parameters := [], returnType := some .long }, accessFlags := 0, code := some k33c2 }
def k33c3 : Code := { maxStack := 5, maxLocals := 5, code := prog_26_method_14_code, exceptionTable := #[], attributes := #[] }
def k33m3 : Method := { name := "sumOf", desc := "(I)D", sig := { parameters := [.int], returnType := some .double }, accessFlags := 2, code := some k33c3 }
def k33c4 : Code := { maxStack := 5, maxLocals := 6, code := prog_26_method_15_code, exceptionTable := #[], attributes := #[] }
def k33m4 : Method := { name := "relation", desc := "(II)I", sig := { parameters := [.int, .int], returnType := some .int }, accessFlags := 2, code := some k33c4 }
/-- com/example/matchwright/matchwright/core/InstanceVectors -/
def k33 : Class := { plain "com/example/matchwright/matchwright/core/InstanceVectors" (some 0) with
  accessFlags := 48
  interfaces := #[]
  cf := some (fileOf pool33 14 #[] #[{ accessFlags := 0, nameIndex := 5, descriptorIndex := 133, attributes := #[] }, { accessFlags := 0, nameIndex := 125, descriptorIndex := 85, attributes := #[] }, { accessFlags := 0, nameIndex := 128, descriptorIndex := 148, attributes := #[] }, { accessFlags := 2, nameIndex := 75, descriptorIndex := 76, attributes := #[] }, { accessFlags := 2, nameIndex := 132, descriptorIndex := 85, attributes := #[] }] 48 2 #[] #[{ accessFlags := 18, nameIndex := 17, descriptorIndex := 18, attributes := #[] }, { accessFlags := 18, nameIndex := 35, descriptorIndex := 18, attributes := #[] }, { accessFlags := 18, nameIndex := 38, descriptorIndex := 18, attributes := #[] }, { accessFlags := 2, nameIndex := 31, descriptorIndex := 18, attributes := #[] }, { accessFlags := 2, nameIndex := 49, descriptorIndex := 50, attributes := #[] }, { accessFlags := 2, nameIndex := 72, descriptorIndex := 50, attributes := #[] }, { accessFlags := 2, nameIndex := 128, descriptorIndex := 129, attributes := #[] }])
  fields := #[{ name := "count", type := .int, accessFlags := 18, slot := 0, constantValue := 0 }, { name := "instances", type := .int, accessFlags := 18, slot := 1, constantValue := 0 }, { name := "dimension", type := .int, accessFlags := 18, slot := 2, constantValue := 0 }, { name := "vectors", type := .int, accessFlags := 2, slot := 3, constantValue := 0 }, { name := "values", type := (.array .double), accessFlags := 2, slot := 4, constantValue := 0 }, { name := "sums", type := (.array .double), accessFlags := 2, slot := 5, constantValue := 0 }, { name := "checks", type := .long, accessFlags := 2, slot := 6, constantValue := 0 }]
  methods := #[k33m0, k33m1, k33m2, k33m3, k33m4]
  instanceTypes := #[.int, .int, .int, .int, (.array .double), (.array .double), .long]
  staticTypes := #[]
  resolved := Array.replicate 151 none
  statics := none }

def pool34 : Array CpInfo := pool [(1, .class_ 2), (0, u "java/util/ListIterator"), (0, .class_ 4), (0, u "java/lang/Object"), (0, .class_ 6), (0, u "java/util/Iterator")] 20

/-- java/util/ListIterator -/
def k34 : Class := { plain "java/util/ListIterator" (some 0) with
  accessFlags := 1537
  interfaces := #[24]
  cf := some (fileOf pool34 1 #[] #[] 1537 3 #[5] #[])
  fields := #[]
  methods := #[]
  instanceTypes := #[]
  staticTypes := #[]
  resolved := Array.replicate 27 none
  statics := none }

def pool35 : Array CpInfo := pool [(1, .methodref 2 3), (0, .class_ 4), (0, .nameAndType 5 6), (0, u "java/lang/Object"), (0, u "<init>"), (0, u "()V"), (0, .fieldref 8 9), (0, .class_ 10), (0, .nameAndType 11 12), (0, u "java/util/ImmutableCollections$ListItr"), (0, u "list"), (0, u "Ljava/util/List;"), (0, .fieldref 8 14), (0, .nameAndType 15 16), (0, u "size"), (0, u "I"), (0, .fieldref 8 18), (0, .nameAndType 19 16), (0, u "cursor"), (0, .fieldref 8 21), (0, .nameAndType 22 23), (0, u "isListIterator"), (0, u "Z"), (0, .interfaceMethodref 25 26), (0, .class_ 27), (0, .nameAndType 28 29), (0, u "java/util/List"), (0, u "get"), (0, u "(I)Ljava/lang/Object;"), (6, .class_ 38), (1, u "java/util/ImmutableCollections"), (2, .class_ 42), (0, u "java/util/ListIterator"), (4, u "(Ljava/util/List;I)V"), (11, u "hasNext"), (0, u "()Z"), (1, u "next"), (0, u "()Ljava/lang/Object;")] 22

def k35c0 : Code := { maxStack := 2, maxLocals := 3, code := jdk_53_method_1_code, exceptionTable := #[], attributes := #[] }
def k35m0 : Method := { name := "<init>", desc := "(Ljava/util/List;I)V", sig := { parameters := [(.object "java/util/List"), .int], returnType := none }, accessFlags := 0, code := some k35c0 }
def k35c1 : Code := { maxStack := 2, maxLocals := 1, code := jdk_53_method_3_code, exceptionTable := #[], attributes := #[] }
def k35m1 : Method := { name := "hasNext", desc := "()Z", sig := { parameters := [], returnType := some .boolean }, accessFlags := 1, code := some k35c1 }
def k35c2 : Code := { maxStack := 3, maxLocals := 3, code := jdk_53_method_4_code, exceptionTable := #[{ startPc := 0, endPc := 24, handlerPc := 25, catchType := 30 }], attributes := #[] }
def k35m2 : Method := { name := "next", desc := "()Ljava/lang/Object;", sig := { parameters := [], returnType := some (.object "java/lang/Object") }, accessFlags := 1, code := some k35c2 }
/-- java/util/ImmutableCollections$ListItr -/
def k35 : Class := { plain "java/util/ImmutableCollections$ListItr" (some 0) with
  accessFlags := 48
  interfaces := #[34]
  cf := some (fileOf pool35 8 #[.nestHost 36] #[{ accessFlags := 0, nameIndex := 5, descriptorIndex := 47, attributes := #[] }, { accessFlags := 1, nameIndex := 59, descriptorIndex := 60, attributes := #[] }, { accessFlags := 1, nameIndex := 62, descriptorIndex := 63, attributes := #[] }] 48 2 #[41] #[{ accessFlags := 18, nameIndex := 11, descriptorIndex := 12, attributes := #[] }, { accessFlags := 18, nameIndex := 15, descriptorIndex := 16, attributes := #[] }, { accessFlags := 18, nameIndex := 22, descriptorIndex := 23, attributes := #[] }, { accessFlags := 2, nameIndex := 19, descriptorIndex := 16, attributes := #[] }])
  fields := #[{ name := "list", type := (.object "java/util/List"), accessFlags := 18, slot := 0, constantValue := 0 }, { name := "size", type := .int, accessFlags := 18, slot := 1, constantValue := 0 }, { name := "isListIterator", type := .boolean, accessFlags := 18, slot := 2, constantValue := 0 }, { name := "cursor", type := .int, accessFlags := 2, slot := 3, constantValue := 0 }]
  methods := #[k35m0, k35m1, k35m2]
  instanceTypes := #[(.object "java/util/List"), .int, .boolean, .int]
  staticTypes := #[]
  resolved := Array.replicate 86 none
  statics := none }

def pool36 : Array CpInfo := pool [(1, u "java/lang/Class"), (0, .class_ 1), (0, u "java/lang/Object"), (0, .class_ 3)] 3

/-- java/lang/Class -/
def k36 : Class := { plain "java/lang/Class" (some 0) with
  accessFlags := 49
  interfaces := #[]
  cf := some (fileOf pool36 2 #[] #[] 49 4 #[] #[])
  fields := #[]
  methods := #[]
  instanceTypes := #[]
  staticTypes := #[]
  resolved := Array.replicate 8 none
  statics := none }

/-- the primitive byte -/
def k37 : Class := { plain "byte" none with kind := .primitive 'B', accessFlags := 0x411 }
/-- [B -/
def k38 : Class := { plain "[B" (some 0) with kind := .array 37 .byte, interfaces := #[9, 10], accessFlags := 1041 }

/-- the primitive double -/
def k39 : Class := { plain "double" none with kind := .primitive 'D', accessFlags := 0x411 }
/-- [D -/
def k40 : Class := { plain "[D" (some 0) with kind := .array 39 .double, interfaces := #[9, 10], accessFlags := 1041 }

/-- the primitive int -/
def k41 : Class := { plain "int" none with kind := .primitive 'I', accessFlags := 0x411 }
/-- [I -/
def k42 : Class := { plain "[I" (some 0) with kind := .array 41 .int, interfaces := #[9, 10], accessFlags := 1041 }

/-- [Ljava/lang/Object; -/
def k43 : Class := { plain "[Ljava/lang/Object;" (some 0) with kind := .array 0 (.object "java/lang/Object"), interfaces := #[9, 10], accessFlags := 1041, mirror := some 2 }

def heap : Heap := #[{ cls := 11, slots := #[.long 0, .int 0, .ref 3, .ref 4], vm := .statics 11 },
  { cls := 26, slots := #[.long 0, .int 0, .null, .ref 5, .ref 6, .null, .null, .null, .int 0, .int 1], vm := .statics 26 },
  { cls := 36, slots := #[], vm := .mirror 43 },
  { cls := 43, slots := #[], vm := .none },
  { cls := 43, slots := #[], vm := .none },
  { cls := 0, slots := #[], vm := .none },
  { cls := 30, slots := #[.null, .int 0], vm := .none }]
def classes : Array Class := #[k0, k1, k2, k3, k4, k5, k6, k7, k8, k9, k10, k11, k12, k13, k14, k15, k16, k17, k18, k19, k20, k21, k22, k23, k24, k25, k26, k27, k28, k29, k30, k31, k32, k33, k34, k35, k36, k37, k38, k39, k40, k41, k42, k43]
def interned : List (Array UInt16 × Addr) := []
def slotsUsed : Nat := 16
def theMethod : MethodId := ⟨1, 2⟩
def args0 : Array Value := #[.int 5, .int 6, .int 7, .int 8, .int 9, .int 10]
def aboutOver (below : List Frame) : State where
  vm := { classes := classes, interned := interned.toArray }
  heap := heap
  slotsUsed := slotsUsed
  threads := #[{ frames := .invoking theMethod args0 :: below }]
def below0 : List Frame := [.native { method := ⟨0, 0⟩, args := #[] }]
def about1 : State := aboutOver below0
def p0 : Program := .bare "" "" ""
def e0 : Env := launch0.env 0 0 0
theorem w_frames : about1.frames = Frame.invoking theMethod args0 :: below0 := rfl
set_option maxRecDepth 65536 in
theorem w_args : argsFit about1.vm theMethod args0 = true := by decide +kernel
set_option maxRecDepth 65536 in
theorem w_heap : heapFits about1 = true := by decide +kernel
set_option maxRecDepth 65536 in
theorem w_runnable : about1.curStatus? = some .runnable := by decide +kernel
set_option maxRecDepth 65536 in
theorem w_alone : about1.alone = true := by decide +kernel
set_option maxRecDepth 65536 in
theorem w_named : about1.methodNamed? x = some theMethod := by decide +kernel
set_option maxRecDepth 65536 in
theorem w_hears : about1.hears theMethod below0 = true := by decide +kernel
set_option maxRecDepth 65536 in
theorem w_ripe : about1.ripe theMethod args0 below0 = true := by decide +kernel
theorem w_running : about1.status = .running := rfl
set_option maxRecDepth 65536 in
theorem w_room : about1.hasRoom e0.platform room_1 = true :=
  launch0.hasRoom_least _ room_1 (by decide +kernel) (by decide +kernel) (by decide +kernel) (by decide +kernel) (by decide +kernel) (by decide +kernel)
theorem allAtoms_all (ts : List Jvm.Cond) (a : Array Jvm.Value) (st : Jvm.State) : (allAtoms ts).before a st = ts.all (fun c => c.before a st) := by
  induction ts with
  | nil => rfl
  | cons c t ih =>
    show (Jvm.Cond.and c (allAtoms t)).before a st = _
    rw [Jvm.Cond.before_and, ih, List.all_cons]
def words1 : List Jvm.Cond := Jvm.Cond.code x code maxLocals ret :: tables_1
/-- a 'code' word, met by the world's own term for the bytes: nothing is compared byte by byte -/
theorem code_word {y : MethodName} {bytes : ByteArray} {mx : Nat} {rt : Option FieldType} {a : Array Value} {s : State} {m : MethodId} {meth : Method} {c : Code} (h1 : s.methodNamed? y = some m) (h2 : s.vm.method? m = some meth) (h3 : meth.code = some c) (h4 : c.code = bytes)
    (h5 : (c.maxLocals == mx && c.exceptionTable.isEmpty && decide (c.maxStack ≤ mostOperands) && decide (meth.sig.returnType = rt) && !meth.locks && decide (parseMethodDescriptor y.desc = some meth.sig)) = true) : (Jvm.Cond.code y bytes mx rt).before a s = true := by
  simp only [Bool.and_eq_true, beq_iff_eq, Bool.not_eq_true', decide_eq_true_eq] at h5
  obtain ⟨⟨⟨⟨⟨g1, g2⟩, g3⟩, g4⟩, g5⟩, g6⟩ := h5
  simp [Cond.before, Cond.holds, Cond.value, h1, h2, h3, h4, g1, g2, g3, g4, g5, g6]
def isCode : Jvm.Cond → Bool
  | .code _ _ _ _ => true
  | _ => false
theorem all_split {L : List Jvm.Cond} {P : Jvm.Cond → Bool} (h1 : L.all (fun c => isCode c || P c) = true) (h2 : ∀ c ∈ L.filter isCode, P c = true) : L.all P = true := by
  refine List.all_eq_true.mpr fun c hc => ?_
  have h := List.all_eq_true.mp h1 c hc
  rcases Bool.eq_false_or_eq_true (isCode c) with hi | hi
  · exact h2 c (List.mem_filter.mpr ⟨hc, hi⟩)
  · simpa [hi] using h
set_option maxRecDepth 65536 in
theorem w_c0 : (Jvm.Cond.code x code maxLocals ret).before args0 about1 = true := code_word (m := ⟨1, 2⟩) (meth := k1m2) (c := k1c2) (by decide +kernel) rfl rfl rfl (by decide +kernel)
set_option maxRecDepth 65536 in
theorem w_c1 : (Jvm.Cond.code ({ cls := "com/example/matchwright/matchwright/core/InstanceVectorsComparePinLaw", name := "s", desc := "(I)I" } : Jvm.MethodName) method_2_code (1 : Nat) (Option.some Jvm.ClassFile.FieldType.int)).before args0 about1 = true := code_word (m := ⟨1, 1⟩) (meth := k1m1) (c := k1c1) (by decide +kernel) rfl rfl rfl (by decide +kernel)
set_option maxRecDepth 65536 in
theorem w_c2 : (Jvm.Cond.code ({ cls := "java/util/ArrayList", name := "<init>", desc := "()V" } : Jvm.MethodName) jdk_38_method_2_code (1 : Nat) (Option.none : Option Jvm.ClassFile.FieldType)).before args0 about1 = true := code_word (m := ⟨11, 1⟩) (meth := k11m1) (c := k11c1) (by decide +kernel) rfl rfl rfl (by decide +kernel)
set_option maxRecDepth 65536 in
theorem w_c3 : (Jvm.Cond.code ({ cls := "java/util/AbstractList", name := "<init>", desc := "()V" } : Jvm.MethodName) jdk_39_method_1_code (1 : Nat) (Option.none : Option Jvm.ClassFile.FieldType)).before args0 about1 = true := code_word (m := ⟨7, 0⟩) (meth := k7m0) (c := k7c0) (by decide +kernel) rfl rfl rfl (by decide +kernel)
set_option maxRecDepth 65536 in
theorem w_c4 : (Jvm.Cond.code ({ cls := "java/util/AbstractCollection", name := "<init>", desc := "()V" } : Jvm.MethodName) jdk_22_method_1_code (1 : Nat) (Option.none : Option Jvm.ClassFile.FieldType)).before args0 about1 = true := code_word (m := ⟨4, 0⟩) (meth := k4m0) (c := k4c0) (by decide +kernel) rfl rfl rfl (by decide +kernel)
set_option maxRecDepth 65536 in
theorem w_c5 : (Jvm.Cond.code ({ cls := "java/lang/Object", name := "<init>", desc := "()V" } : Jvm.MethodName) object_method_1_code (1 : Nat) (Option.none : Option Jvm.ClassFile.FieldType)).before args0 about1 = true := code_word (m := ⟨0, 0⟩) (meth := k0m0) (c := k0c0) (by decide +kernel) rfl rfl rfl (by decide +kernel)
set_option maxRecDepth 65536 in
theorem w_c6 : (Jvm.Cond.code ({ cls := "java/lang/Double", name := "valueOf", desc := "(D)Ljava/lang/Double;" } : Jvm.MethodName) jdk_117_method_4_code (2 : Nat) (Option.some (Jvm.ClassFile.FieldType.object "java/lang/Double"))).before args0 about1 = true := code_word (m := ⟨16, 0⟩) (meth := k16m0) (c := k16c0) (by decide +kernel) rfl rfl rfl (by decide +kernel)
set_option maxRecDepth 65536 in
theorem w_c7 : (Jvm.Cond.code ({ cls := "java/lang/Double", name := "<init>", desc := "(D)V" } : Jvm.MethodName) jdk_117_method_9_code (3 : Nat) (Option.none : Option Jvm.ClassFile.FieldType)).before args0 about1 = true := code_word (m := ⟨16, 2⟩) (meth := k16m2) (c := k16c2) (by decide +kernel) rfl rfl rfl (by decide +kernel)
set_option maxRecDepth 65536 in
theorem w_c8 : (Jvm.Cond.code ({ cls := "java/lang/Number", name := "<init>", desc := "()V" } : Jvm.MethodName) jdk_18_method_1_code (1 : Nat) (Option.none : Option Jvm.ClassFile.FieldType)).before args0 about1 = true := code_word (m := ⟨12, 0⟩) (meth := k12m0) (c := k12c0) (by decide +kernel) rfl rfl rfl (by decide +kernel)
set_option maxRecDepth 65536 in
theorem w_c9 : (Jvm.Cond.code ({ cls := "java/util/ArrayList", name := "add", desc := "(Ljava/lang/Object;)Z" } : Jvm.MethodName) jdk_38_method_25_code (2 : Nat) (Option.some Jvm.ClassFile.FieldType.boolean)).before args0 about1 = true := code_word (m := ⟨11, 10⟩) (meth := k11m10) (c := k11c10) (by decide +kernel) rfl rfl rfl (by decide +kernel)
set_option maxRecDepth 65536 in
theorem w_c10 : (Jvm.Cond.code ({ cls := "java/util/ArrayList", name := "add", desc := "(Ljava/lang/Object;[Ljava/lang/Object;I)V" } : Jvm.MethodName) jdk_38_method_24_code (4 : Nat) (Option.none : Option Jvm.ClassFile.FieldType)).before args0 about1 = true := code_word (m := ⟨11, 9⟩) (meth := k11m9) (c := k11c9) (by decide +kernel) rfl rfl rfl (by decide +kernel)
set_option maxRecDepth 65536 in
theorem w_c11 : (Jvm.Cond.code ({ cls := "java/util/ArrayList", name := "grow", desc := "()[Ljava/lang/Object;" } : Jvm.MethodName) jdk_38_method_7_code (1 : Nat) (Option.some (Jvm.ClassFile.FieldType.array (Jvm.ClassFile.FieldType.object "java/lang/Object")))).before args0 about1 = true := code_word (m := ⟨11, 3⟩) (meth := k11m3) (c := k11c3) (by decide +kernel) rfl rfl rfl (by decide +kernel)
set_option maxRecDepth 65536 in
theorem w_c12 : (Jvm.Cond.code ({ cls := "java/util/ArrayList", name := "grow", desc := "(I)[Ljava/lang/Object;" } : Jvm.MethodName) jdk_38_method_6_code (4 : Nat) (Option.some (Jvm.ClassFile.FieldType.array (Jvm.ClassFile.FieldType.object "java/lang/Object")))).before args0 about1 = true := code_word (m := ⟨11, 2⟩) (meth := k11m2) (c := k11c2) (by decide +kernel) rfl rfl rfl (by decide +kernel)
set_option maxRecDepth 65536 in
theorem w_c13 : (Jvm.Cond.code ({ cls := "java/lang/Math", name := "max", desc := "(II)I" } : Jvm.MethodName) jdk_29_method_65_code (2 : Nat) (Option.some Jvm.ClassFile.FieldType.int)).before args0 about1 = true := code_word (m := ⟨17, 3⟩) (meth := k17m3) (c := k17c3) (by decide +kernel) rfl rfl rfl (by decide +kernel)
set_option maxRecDepth 65536 in
theorem w_c14 : (Jvm.Cond.code ({ cls := "com/example/matchwright/matchwright/core/MatchObject", name := "<init>", desc := "(Ljava/lang/String;Ljava/util/List;)V" } : Jvm.MethodName) prog_29_method_1_code (10 : Nat) (Option.none : Option Jvm.ClassFile.FieldType)).before args0 about1 = true := code_word (m := ⟨19, 0⟩) (meth := k19m0) (c := k19c0) (by decide +kernel) rfl rfl rfl (by decide +kernel)
set_option maxRecDepth 65536 in
theorem w_c15 : (Jvm.Cond.code ({ cls := "java/lang/Record", name := "<init>", desc := "()V" } : Jvm.MethodName) jdk_30_method_1_code (1 : Nat) (Option.none : Option Jvm.ClassFile.FieldType)).before args0 about1 = true := code_word (m := ⟨18, 0⟩) (meth := k18m0) (c := k18c0) (by decide +kernel) rfl rfl rfl (by decide +kernel)
set_option maxRecDepth 65536 in
theorem w_c16 : (Jvm.Cond.code ({ cls := "java/util/Objects", name := "requireNonNull", desc := "(Ljava/lang/Object;Ljava/lang/String;)Ljava/lang/Object;" } : Jvm.MethodName) jdk_31_method_11_code (2 : Nat) (Option.some (Jvm.ClassFile.FieldType.object "java/lang/Object"))).before args0 about1 = true := code_word (m := ⟨22, 2⟩) (meth := k22m2) (c := k22c2) (by decide +kernel) rfl rfl rfl (by decide +kernel)
set_option maxRecDepth 65536 in
theorem w_c17 : (Jvm.Cond.code ({ cls := "java/util/ArrayList", name := "isEmpty", desc := "()Z" } : Jvm.MethodName) jdk_38_method_9_code (1 : Nat) (Option.some Jvm.ClassFile.FieldType.boolean)).before args0 about1 = true := code_word (m := ⟨11, 5⟩) (meth := k11m5) (c := k11c5) (by decide +kernel) rfl rfl rfl (by decide +kernel)
set_option maxRecDepth 65536 in
theorem w_c18 : (Jvm.Cond.code ({ cls := "java/util/ArrayList", name := "get", desc := "(I)Ljava/lang/Object;" } : Jvm.MethodName) jdk_38_method_20_code (2 : Nat) (Option.some (Jvm.ClassFile.FieldType.object "java/lang/Object"))).before args0 about1 = true := code_word (m := ⟨11, 8⟩) (meth := k11m8) (c := k11c8) (by decide +kernel) rfl rfl rfl (by decide +kernel)
set_option maxRecDepth 65536 in
theorem w_c19 : (Jvm.Cond.code ({ cls := "java/util/Objects", name := "checkIndex", desc := "(II)I" } : Jvm.MethodName) jdk_31_method_17_code (2 : Nat) (Option.some Jvm.ClassFile.FieldType.int)).before args0 about1 = true := code_word (m := ⟨22, 3⟩) (meth := k22m3) (c := k22c3) (by decide +kernel) rfl rfl rfl (by decide +kernel)
set_option maxRecDepth 65536 in
theorem w_c20 : (Jvm.Cond.code ({ cls := "jdk/internal/util/Preconditions", name := "checkIndex", desc := "(IILjava/util/function/BiFunction;)I" } : Jvm.MethodName) jdk_41_method_11_code (3 : Nat) (Option.some Jvm.ClassFile.FieldType.int)).before args0 about1 = true := code_word (m := ⟨23, 1⟩) (meth := k23m1) (c := k23c1) (by decide +kernel) rfl rfl rfl (by decide +kernel)
set_option maxRecDepth 65536 in
theorem w_c21 : (Jvm.Cond.code ({ cls := "java/util/ArrayList", name := "elementData", desc := "(I)Ljava/lang/Object;" } : Jvm.MethodName) jdk_38_method_18_code (2 : Nat) (Option.some (Jvm.ClassFile.FieldType.object "java/lang/Object"))).before args0 about1 = true := code_word (m := ⟨11, 7⟩) (meth := k11m7) (c := k11c7) (by decide +kernel) rfl rfl rfl (by decide +kernel)
set_option maxRecDepth 65536 in
theorem w_c22 : (Jvm.Cond.code ({ cls := "java/util/ArrayList", name := "size", desc := "()I" } : Jvm.MethodName) jdk_38_method_8_code (1 : Nat) (Option.some Jvm.ClassFile.FieldType.int)).before args0 about1 = true := code_word (m := ⟨11, 4⟩) (meth := k11m4) (c := k11c4) (by decide +kernel) rfl rfl rfl (by decide +kernel)
set_option maxRecDepth 65536 in
theorem w_c23 : (Jvm.Cond.code ({ cls := "java/util/ArrayList", name := "<init>", desc := "(I)V" } : Jvm.MethodName) jdk_38_method_1_code (2 : Nat) (Option.none : Option Jvm.ClassFile.FieldType)).before args0 about1 = true := code_word (m := ⟨11, 0⟩) (meth := k11m0) (c := k11c0) (by decide +kernel) rfl rfl rfl (by decide +kernel)
set_option maxRecDepth 65536 in
theorem w_c24 : (Jvm.Cond.code ({ cls := "java/util/ArrayList", name := "iterator", desc := "()Ljava/util/Iterator;" } : Jvm.MethodName) jdk_38_method_55_code (1 : Nat) (Option.some (Jvm.ClassFile.FieldType.object "java/util/Iterator"))).before args0 about1 = true := code_word (m := ⟨11, 11⟩) (meth := k11m11) (c := k11c11) (by decide +kernel) rfl rfl rfl (by decide +kernel)
set_option maxRecDepth 65536 in
theorem w_c25 : (Jvm.Cond.code ({ cls := "java/util/ArrayList$Itr", name := "<init>", desc := "(Ljava/util/ArrayList;)V" } : Jvm.MethodName) jdk_49_method_1_code (2 : Nat) (Option.none : Option Jvm.ClassFile.FieldType)).before args0 about1 = true := code_word (m := ⟨25, 0⟩) (meth := k25m0) (c := k25c0) (by decide +kernel) rfl rfl rfl (by decide +kernel)
set_option maxRecDepth 65536 in
theorem w_c26 : (Jvm.Cond.code ({ cls := "java/util/ArrayList$Itr", name := "hasNext", desc := "()Z" } : Jvm.MethodName) jdk_49_method_2_code (1 : Nat) (Option.some Jvm.ClassFile.FieldType.boolean)).before args0 about1 = true := code_word (m := ⟨25, 1⟩) (meth := k25m1) (c := k25c1) (by decide +kernel) rfl rfl rfl (by decide +kernel)
set_option maxRecDepth 65536 in
theorem w_c27 : (Jvm.Cond.code ({ cls := "java/util/ArrayList$Itr", name := "next", desc := "()Ljava/lang/Object;" } : Jvm.MethodName) jdk_49_method_3_code (3 : Nat) (Option.some (Jvm.ClassFile.FieldType.object "java/lang/Object"))).before args0 about1 = true := code_word (m := ⟨25, 2⟩) (meth := k25m2) (c := k25c2) (by decide +kernel) rfl rfl rfl (by decide +kernel)
set_option maxRecDepth 65536 in
theorem w_c28 : (Jvm.Cond.code ({ cls := "java/util/ArrayList$Itr", name := "checkForComodification", desc := "()V" } : Jvm.MethodName) jdk_49_method_6_code (1 : Nat) (Option.none : Option Jvm.ClassFile.FieldType)).before args0 about1 = true := code_word (m := ⟨25, 3⟩) (meth := k25m3) (c := k25c3) (by decide +kernel) rfl rfl rfl (by decide +kernel)
set_option maxRecDepth 65536 in
theorem w_c29 : (Jvm.Cond.code ({ cls := "java/lang/Double", name := "doubleValue", desc := "()D" } : Jvm.MethodName) jdk_117_method_19_code (1 : Nat) (Option.some Jvm.ClassFile.FieldType.double)).before args0 about1 = true := code_word (m := ⟨16, 3⟩) (meth := k16m3) (c := k16c3) (by decide +kernel) rfl rfl rfl (by decide +kernel)
set_option maxRecDepth 65536 in
theorem w_c30 : (Jvm.Cond.code ({ cls := "java/lang/Double", name := "isFinite", desc := "(D)Z" } : Jvm.MethodName) jdk_117_method_8_code (2 : Nat) (Option.some Jvm.ClassFile.FieldType.boolean)).before args0 about1 = true := code_word (m := ⟨16, 1⟩) (meth := k16m1) (c := k16c1) (by decide +kernel) rfl rfl rfl (by decide +kernel)
set_option maxRecDepth 65536 in
theorem w_c31 : (Jvm.Cond.code ({ cls := "java/lang/Math", name := "abs", desc := "(D)D" } : Jvm.MethodName) jdk_29_method_64_code (2 : Nat) (Option.some Jvm.ClassFile.FieldType.double)).before args0 about1 = true := code_word (m := ⟨17, 2⟩) (meth := k17m2) (c := k17c2) (by decide +kernel) rfl rfl rfl (by decide +kernel)
set_option maxRecDepth 65536 in
theorem w_c32 : (Jvm.Cond.code ({ cls := "java/util/List", name := "copyOf", desc := "(Ljava/util/Collection;)Ljava/util/List;" } : Jvm.MethodName) jdk_40_method_48_code (1 : Nat) (Option.some (Jvm.ClassFile.FieldType.object "java/util/List"))).before args0 about1 = true := code_word (m := ⟨6, 6⟩) (meth := k6m6) (c := k6c6) (by decide +kernel) rfl rfl rfl (by decide +kernel)
set_option maxRecDepth 65536 in
theorem w_c33 : (Jvm.Cond.code ({ cls := "java/util/ImmutableCollections", name := "listCopy", desc := "(Ljava/util/Collection;)Ljava/util/List;" } : Jvm.MethodName) jdk_56_method_3_code (2 : Nat) (Option.some (Jvm.ClassFile.FieldType.object "java/util/List"))).before args0 about1 = true := code_word (m := ⟨26, 1⟩) (meth := k26m1) (c := k26c1) (by decide +kernel) rfl rfl rfl (by decide +kernel)
set_option maxRecDepth 65536 in
theorem w_c34 : (Jvm.Cond.code ({ cls := "java/util/ArrayList", name := "toArray", desc := "()[Ljava/lang/Object;" } : Jvm.MethodName) jdk_38_method_16_code (1 : Nat) (Option.some (Jvm.ClassFile.FieldType.array (Jvm.ClassFile.FieldType.object "java/lang/Object")))).before args0 about1 = true := code_word (m := ⟨11, 6⟩) (meth := k11m6) (c := k11c6) (by decide +kernel) rfl rfl rfl (by decide +kernel)
set_option maxRecDepth 65536 in
theorem w_c35 : (Jvm.Cond.code ({ cls := "java/util/Arrays", name := "copyOf", desc := "([Ljava/lang/Object;I)[Ljava/lang/Object;" } : Jvm.MethodName) jdk_65_method_119_code (2 : Nat) (Option.some (Jvm.ClassFile.FieldType.array (Jvm.ClassFile.FieldType.object "java/lang/Object")))).before args0 about1 = true := code_word (m := ⟨31, 1⟩) (meth := k31m1) (c := k31c1) (by decide +kernel) rfl rfl rfl (by decide +kernel)
set_option maxRecDepth 65536 in
theorem w_c36 : (Jvm.Cond.code ({ cls := "java/util/Arrays", name := "copyOf", desc := "([Ljava/lang/Object;ILjava/lang/Class;)[Ljava/lang/Object;" } : Jvm.MethodName) jdk_65_method_120_code (4 : Nat) (Option.some (Jvm.ClassFile.FieldType.array (Jvm.ClassFile.FieldType.object "java/lang/Object")))).before args0 about1 = true := code_word (m := ⟨31, 2⟩) (meth := k31m2) (c := k31c2) (by decide +kernel) rfl rfl rfl (by decide +kernel)
set_option maxRecDepth 65536 in
theorem w_c37 : (Jvm.Cond.code ({ cls := "java/lang/Math", name := "min", desc := "(II)I" } : Jvm.MethodName) jdk_29_method_69_code (2 : Nat) (Option.some Jvm.ClassFile.FieldType.int)).before args0 about1 = true := code_word (m := ⟨17, 4⟩) (meth := k17m4) (c := k17c4) (by decide +kernel) rfl rfl rfl (by decide +kernel)
set_option maxRecDepth 65536 in
theorem w_c38 : (Jvm.Cond.code ({ cls := "java/util/List", name := "of", desc := "([Ljava/lang/Object;)Ljava/util/List;" } : Jvm.MethodName) jdk_40_method_47_code (2 : Nat) (Option.some (Jvm.ClassFile.FieldType.object "java/util/List"))).before args0 about1 = true := code_word (m := ⟨6, 5⟩) (meth := k6m5) (c := k6c5) (by decide +kernel) rfl rfl rfl (by decide +kernel)
set_option maxRecDepth 65536 in
theorem w_c39 : (Jvm.Cond.code ({ cls := "java/util/ImmutableCollections", name := "listFromArray", desc := "([Ljava/lang/Object;)Ljava/util/List;" } : Jvm.MethodName) jdk_56_method_4_code (3 : Nat) (Option.some (Jvm.ClassFile.FieldType.object "java/util/List"))).before args0 about1 = true := code_word (m := ⟨26, 2⟩) (meth := k26m2) (c := k26c2) (by decide +kernel) rfl rfl rfl (by decide +kernel)
set_option maxRecDepth 65536 in
theorem w_c40 : (Jvm.Cond.code ({ cls := "java/util/Objects", name := "requireNonNull", desc := "(Ljava/lang/Object;)Ljava/lang/Object;" } : Jvm.MethodName) jdk_31_method_10_code (1 : Nat) (Option.some (Jvm.ClassFile.FieldType.object "java/lang/Object"))).before args0 about1 = true := code_word (m := ⟨22, 1⟩) (meth := k22m1) (c := k22c1) (by decide +kernel) rfl rfl rfl (by decide +kernel)
set_option maxRecDepth 65536 in
theorem w_c41 : (Jvm.Cond.code ({ cls := "java/util/ImmutableCollections$ListN", name := "<init>", desc := "([Ljava/lang/Object;Z)V" } : Jvm.MethodName) jdk_45_method_1_code (3 : Nat) (Option.none : Option Jvm.ClassFile.FieldType)).before args0 about1 = true := code_word (m := ⟨30, 0⟩) (meth := k30m0) (c := k30c0) (by decide +kernel) rfl rfl rfl (by decide +kernel)
set_option maxRecDepth 65536 in
theorem w_c42 : (Jvm.Cond.code ({ cls := "java/util/ImmutableCollections$AbstractImmutableList", name := "<init>", desc := "()V" } : Jvm.MethodName) jdk_46_method_1_code (1 : Nat) (Option.none : Option Jvm.ClassFile.FieldType)).before args0 about1 = true := code_word (m := ⟨28, 0⟩) (meth := k28m0) (c := k28c0) (by decide +kernel) rfl rfl rfl (by decide +kernel)
set_option maxRecDepth 65536 in
theorem w_c43 : (Jvm.Cond.code ({ cls := "java/util/ImmutableCollections$AbstractImmutableCollection", name := "<init>", desc := "()V" } : Jvm.MethodName) jdk_47_method_1_code (1 : Nat) (Option.none : Option Jvm.ClassFile.FieldType)).before args0 about1 = true := code_word (m := ⟨27, 0⟩) (meth := k27m0) (c := k27c0) (by decide +kernel) rfl rfl rfl (by decide +kernel)
set_option maxRecDepth 65536 in
theorem w_c44 : (Jvm.Cond.code ({ cls := "java/util/ImmutableCollections$List12", name := "<init>", desc := "(Ljava/lang/Object;Ljava/lang/Object;)V" } : Jvm.MethodName) jdk_44_method_2_code (3 : Nat) (Option.none : Option Jvm.ClassFile.FieldType)).before args0 about1 = true := code_word (m := ⟨29, 0⟩) (meth := k29m0) (c := k29c0) (by decide +kernel) rfl rfl rfl (by decide +kernel)
set_option maxRecDepth 65536 in
theorem w_c45 : (Jvm.Cond.code ({ cls := "com/example/matchwright/matchwright/core/InstanceVectors", name := "<init>", desc := "(Ljava/util/List;)V" } : Jvm.MethodName) prog_26_method_1_code (10 : Nat) (Option.none : Option Jvm.ClassFile.FieldType)).before args0 about1 = true := code_word (m := ⟨33, 0⟩) (meth := k33m0) (c := k33c0) (by decide +kernel) rfl rfl rfl (by decide +kernel)
set_option maxRecDepth 65536 in
theorem w_c46 : (Jvm.Cond.code ({ cls := "com/example/matchwright/matchwright/core/MatchObject", name := "vectors", desc := "()Ljava/util/List;" } : Jvm.MethodName) prog_29_method_7_code (1 : Nat) (Option.some (Jvm.ClassFile.FieldType.object "java/util/List"))).before args0 about1 = true := code_word (m := ⟨19, 1⟩) (meth := k19m1) (c := k19c1) (by decide +kernel) rfl rfl rfl (by decide +kernel)
set_option maxRecDepth 65536 in
theorem w_c47 : (Jvm.Cond.code ({ cls := "java/util/ImmutableCollections$List12", name := "size", desc := "()I" } : Jvm.MethodName) jdk_44_method_3_code (1 : Nat) (Option.some Jvm.ClassFile.FieldType.int)).before args0 about1 = true := code_word (m := ⟨29, 1⟩) (meth := k29m1) (c := k29c1) (by decide +kernel) rfl rfl rfl (by decide +kernel)
set_option maxRecDepth 65536 in
theorem w_c48 : (Jvm.Cond.code ({ cls := "java/util/ImmutableCollections$List12", name := "get", desc := "(I)Ljava/lang/Object;" } : Jvm.MethodName) jdk_44_method_5_code (2 : Nat) (Option.some (Jvm.ClassFile.FieldType.object "java/lang/Object"))).before args0 about1 = true := code_word (m := ⟨29, 2⟩) (meth := k29m2) (c := k29c2) (by decide +kernel) rfl rfl rfl (by decide +kernel)
set_option maxRecDepth 65536 in
theorem w_c49 : (Jvm.Cond.code ({ cls := "java/util/ImmutableCollections$ListN", name := "size", desc := "()I" } : Jvm.MethodName) jdk_45_method_3_code (1 : Nat) (Option.some Jvm.ClassFile.FieldType.int)).before args0 about1 = true := code_word (m := ⟨30, 1⟩) (meth := k30m1) (c := k30c1) (by decide +kernel) rfl rfl rfl (by decide +kernel)
set_option maxRecDepth 65536 in
theorem w_c50 : (Jvm.Cond.code ({ cls := "java/lang/Math", name := "toIntExact", desc := "(J)I" } : Jvm.MethodName) jdk_29_method_43_code (2 : Nat) (Option.some Jvm.ClassFile.FieldType.int)).before args0 about1 = true := code_word (m := ⟨17, 1⟩) (meth := k17m1) (c := k17c1) (by decide +kernel) rfl rfl rfl (by decide +kernel)
set_option maxRecDepth 65536 in
theorem w_c51 : (Jvm.Cond.code ({ cls := "java/util/ImmutableCollections$AbstractImmutableList", name := "iterator", desc := "()Ljava/util/Iterator;" } : Jvm.MethodName) jdk_46_method_10_code (1 : Nat) (Option.some (Jvm.ClassFile.FieldType.object "java/util/Iterator"))).before args0 about1 = true := code_word (m := ⟨28, 1⟩) (meth := k28m1) (c := k28c1) (by decide +kernel) rfl rfl rfl (by decide +kernel)
set_option maxRecDepth 65536 in
theorem w_c52 : (Jvm.Cond.code ({ cls := "java/util/ImmutableCollections$ListItr", name := "<init>", desc := "(Ljava/util/List;I)V" } : Jvm.MethodName) jdk_53_method_1_code (3 : Nat) (Option.none : Option Jvm.ClassFile.FieldType)).before args0 about1 = true := code_word (m := ⟨35, 0⟩) (meth := k35m0) (c := k35c0) (by decide +kernel) rfl rfl rfl (by decide +kernel)
set_option maxRecDepth 65536 in
theorem w_c53 : (Jvm.Cond.code ({ cls := "java/util/ImmutableCollections$ListItr", name := "hasNext", desc := "()Z" } : Jvm.MethodName) jdk_53_method_3_code (1 : Nat) (Option.some Jvm.ClassFile.FieldType.boolean)).before args0 about1 = true := code_word (m := ⟨35, 1⟩) (meth := k35m1) (c := k35c1) (by decide +kernel) rfl rfl rfl (by decide +kernel)
set_option maxRecDepth 65536 in
theorem w_c54 : (Jvm.Cond.code ({ cls := "java/util/ImmutableCollections$ListN", name := "get", desc := "(I)Ljava/lang/Object;" } : Jvm.MethodName) jdk_45_method_4_code (2 : Nat) (Option.some (Jvm.ClassFile.FieldType.object "java/lang/Object"))).before args0 about1 = true := code_word (m := ⟨30, 2⟩) (meth := k30m2) (c := k30c2) (by decide +kernel) rfl rfl rfl (by decide +kernel)
set_option maxRecDepth 65536 in
theorem w_c55 : (Jvm.Cond.code ({ cls := "com/example/matchwright/matchwright/core/InstanceVectors", name := "sumOf", desc := "(I)D" } : Jvm.MethodName) prog_26_method_14_code (5 : Nat) (Option.some Jvm.ClassFile.FieldType.double)).before args0 about1 = true := code_word (m := ⟨33, 3⟩) (meth := k33m3) (c := k33c3) (by decide +kernel) rfl rfl rfl (by decide +kernel)
set_option maxRecDepth 65536 in
theorem w_c56 : (Jvm.Cond.code ({ cls := "com/example/matchwright/matchwright/core/InstanceVectors", name := "compare", desc := "(II)I" } : Jvm.MethodName) prog_26_method_11_code (3 : Nat) (Option.some Jvm.ClassFile.FieldType.int)).before args0 about1 = true := code_word (m := ⟨33, 1⟩) (meth := k33m1) (c := k33c1) (by decide +kernel) rfl rfl rfl (by decide +kernel)
set_option maxRecDepth 65536 in
theorem w_c57 : (Jvm.Cond.code ({ cls := "com/example/matchwright/matchwright/core/InstanceVectors", name := "relation", desc := "(II)I" } : Jvm.MethodName) prog_26_method_15_code (6 : Nat) (Option.some Jvm.ClassFile.FieldType.int)).before args0 about1 = true := code_word (m := ⟨33, 4⟩) (meth := k33m4) (c := k33c4) (by decide +kernel) rfl rfl rfl (by decide +kernel)
set_option maxRecDepth 65536 in
theorem w_c58 : (Jvm.Cond.code ({ cls := "com/example/matchwright/matchwright/core/InstanceVectors", name := "checks", desc := "()J" } : Jvm.MethodName) prog_26_method_13_code (1 : Nat) (Option.some Jvm.ClassFile.FieldType.long)).before args0 about1 = true := code_word (m := ⟨33, 2⟩) (meth := k33m2) (c := k33c2) (by decide +kernel) rfl rfl rfl (by decide +kernel)
def codes1 : List Jvm.Cond := [Jvm.Cond.code x code maxLocals ret, Jvm.Cond.code ({ cls := "com/example/matchwright/matchwright/core/InstanceVectorsComparePinLaw", name := "s", desc := "(I)I" } : Jvm.MethodName) method_2_code (1 : Nat) (Option.some Jvm.ClassFile.FieldType.int), Jvm.Cond.code ({ cls := "java/util/ArrayList", name := "<init>", desc := "()V" } : Jvm.MethodName) jdk_38_method_2_code (1 : Nat) (Option.none : Option Jvm.ClassFile.FieldType), Jvm.Cond.code ({ cls := "java/util/AbstractList", name := "<init>", desc := "()V" } : Jvm.MethodName) jdk_39_method_1_code (1 : Nat) (Option.none : Option Jvm.ClassFile.FieldType), Jvm.Cond.code ({ cls := "java/util/AbstractCollection", name := "<init>", desc := "()V" } : Jvm.MethodName) jdk_22_method_1_code (1 : Nat) (Option.none : Option Jvm.ClassFile.FieldType), Jvm.Cond.code ({ cls := "java/lang/Object", name := "<init>", desc := "()V" } : Jvm.MethodName) object_method_1_code (1 : Nat) (Option.none : Option Jvm.ClassFile.FieldType), Jvm.Cond.code ({ cls := "java/lang/Double", name := "valueOf", desc := "(D)Ljava/lang/Double;" } : Jvm.MethodName) jdk_117_method_4_code (2 : Nat) (Option.some (Jvm.ClassFile.FieldType.object "java/lang/Double")), Jvm.Cond.code ({ cls := "java/lang/Double", name := "<init>", desc := "(D)V" } : Jvm.MethodName) jdk_117_method_9_code (3 : Nat) (Option.none : Option Jvm.ClassFile.FieldType), Jvm.Cond.code ({ cls := "java/lang/Number", name := "<init>", desc := "()V" } : Jvm.MethodName) jdk_18_method_1_code (1 : Nat) (Option.none : Option Jvm.ClassFile.FieldType), Jvm.Cond.code ({ cls := "java/util/ArrayList", name := "add", desc := "(Ljava/lang/Object;)Z" } : Jvm.MethodName) jdk_38_method_25_code (2 : Nat) (Option.some Jvm.ClassFile.FieldType.boolean), Jvm.Cond.code ({ cls := "java/util/ArrayList", name := "add", desc := "(Ljava/lang/Object;[Ljava/lang/Object;I)V" } : Jvm.MethodName) jdk_38_method_24_code (4 : Nat) (Option.none : Option Jvm.ClassFile.FieldType), Jvm.Cond.code ({ cls := "java/util/ArrayList", name := "grow", desc := "()[Ljava/lang/Object;" } : Jvm.MethodName) jdk_38_method_7_code (1 : Nat) (Option.some (Jvm.ClassFile.FieldType.array (Jvm.ClassFile.FieldType.object "java/lang/Object"))), Jvm.Cond.code ({ cls := "java/util/ArrayList", name := "grow", desc := "(I)[Ljava/lang/Object;" } : Jvm.MethodName) jdk_38_method_6_code (4 : Nat) (Option.some (Jvm.ClassFile.FieldType.array (Jvm.ClassFile.FieldType.object "java/lang/Object"))), Jvm.Cond.code ({ cls := "java/lang/Math", name := "max", desc := "(II)I" } : Jvm.MethodName) jdk_29_method_65_code (2 : Nat) (Option.some Jvm.ClassFile.FieldType.int), Jvm.Cond.code ({ cls := "com/example/matchwright/matchwright/core/MatchObject", name := "<init>", desc := "(Ljava/lang/String;Ljava/util/List;)V" } : Jvm.MethodName) prog_29_method_1_code (10 : Nat) (Option.none : Option Jvm.ClassFile.FieldType), Jvm.Cond.code ({ cls := "java/lang/Record", name := "<init>", desc := "()V" } : Jvm.MethodName) jdk_30_method_1_code (1 : Nat) (Option.none : Option Jvm.ClassFile.FieldType), Jvm.Cond.code ({ cls := "java/util/Objects", name := "requireNonNull", desc := "(Ljava/lang/Object;Ljava/lang/String;)Ljava/lang/Object;" } : Jvm.MethodName) jdk_31_method_11_code (2 : Nat) (Option.some (Jvm.ClassFile.FieldType.object "java/lang/Object")), Jvm.Cond.code ({ cls := "java/util/ArrayList", name := "isEmpty", desc := "()Z" } : Jvm.MethodName) jdk_38_method_9_code (1 : Nat) (Option.some Jvm.ClassFile.FieldType.boolean), Jvm.Cond.code ({ cls := "java/util/ArrayList", name := "get", desc := "(I)Ljava/lang/Object;" } : Jvm.MethodName) jdk_38_method_20_code (2 : Nat) (Option.some (Jvm.ClassFile.FieldType.object "java/lang/Object")), Jvm.Cond.code ({ cls := "java/util/Objects", name := "checkIndex", desc := "(II)I" } : Jvm.MethodName) jdk_31_method_17_code (2 : Nat) (Option.some Jvm.ClassFile.FieldType.int), Jvm.Cond.code ({ cls := "jdk/internal/util/Preconditions", name := "checkIndex", desc := "(IILjava/util/function/BiFunction;)I" } : Jvm.MethodName) jdk_41_method_11_code (3 : Nat) (Option.some Jvm.ClassFile.FieldType.int), Jvm.Cond.code ({ cls := "java/util/ArrayList", name := "elementData", desc := "(I)Ljava/lang/Object;" } : Jvm.MethodName) jdk_38_method_18_code (2 : Nat) (Option.some (Jvm.ClassFile.FieldType.object "java/lang/Object")), Jvm.Cond.code ({ cls := "java/util/ArrayList", name := "size", desc := "()I" } : Jvm.MethodName) jdk_38_method_8_code (1 : Nat) (Option.some Jvm.ClassFile.FieldType.int), Jvm.Cond.code ({ cls := "java/util/ArrayList", name := "<init>", desc := "(I)V" } : Jvm.MethodName) jdk_38_method_1_code (2 : Nat) (Option.none : Option Jvm.ClassFile.FieldType), Jvm.Cond.code ({ cls := "java/util/ArrayList", name := "iterator", desc := "()Ljava/util/Iterator;" } : Jvm.MethodName) jdk_38_method_55_code (1 : Nat) (Option.some (Jvm.ClassFile.FieldType.object "java/util/Iterator")), Jvm.Cond.code ({ cls := "java/util/ArrayList$Itr", name := "<init>", desc := "(Ljava/util/ArrayList;)V" } : Jvm.MethodName) jdk_49_method_1_code (2 : Nat) (Option.none : Option Jvm.ClassFile.FieldType), Jvm.Cond.code ({ cls := "java/util/ArrayList$Itr", name := "hasNext", desc := "()Z" } : Jvm.MethodName) jdk_49_method_2_code (1 : Nat) (Option.some Jvm.ClassFile.FieldType.boolean), Jvm.Cond.code ({ cls := "java/util/ArrayList$Itr", name := "next", desc := "()Ljava/lang/Object;" } : Jvm.MethodName) jdk_49_method_3_code (3 : Nat) (Option.some (Jvm.ClassFile.FieldType.object "java/lang/Object")), Jvm.Cond.code ({ cls := "java/util/ArrayList$Itr", name := "checkForComodification", desc := "()V" } : Jvm.MethodName) jdk_49_method_6_code (1 : Nat) (Option.none : Option Jvm.ClassFile.FieldType), Jvm.Cond.code ({ cls := "java/lang/Double", name := "doubleValue", desc := "()D" } : Jvm.MethodName) jdk_117_method_19_code (1 : Nat) (Option.some Jvm.ClassFile.FieldType.double), Jvm.Cond.code ({ cls := "java/lang/Double", name := "isFinite", desc := "(D)Z" } : Jvm.MethodName) jdk_117_method_8_code (2 : Nat) (Option.some Jvm.ClassFile.FieldType.boolean), Jvm.Cond.code ({ cls := "java/lang/Math", name := "abs", desc := "(D)D" } : Jvm.MethodName) jdk_29_method_64_code (2 : Nat) (Option.some Jvm.ClassFile.FieldType.double), Jvm.Cond.code ({ cls := "java/util/List", name := "copyOf", desc := "(Ljava/util/Collection;)Ljava/util/List;" } : Jvm.MethodName) jdk_40_method_48_code (1 : Nat) (Option.some (Jvm.ClassFile.FieldType.object "java/util/List")), Jvm.Cond.code ({ cls := "java/util/ImmutableCollections", name := "listCopy", desc := "(Ljava/util/Collection;)Ljava/util/List;" } : Jvm.MethodName) jdk_56_method_3_code (2 : Nat) (Option.some (Jvm.ClassFile.FieldType.object "java/util/List")), Jvm.Cond.code ({ cls := "java/util/ArrayList", name := "toArray", desc := "()[Ljava/lang/Object;" } : Jvm.MethodName) jdk_38_method_16_code (1 : Nat) (Option.some (Jvm.ClassFile.FieldType.array (Jvm.ClassFile.FieldType.object "java/lang/Object"))), Jvm.Cond.code ({ cls := "java/util/Arrays", name := "copyOf", desc := "([Ljava/lang/Object;I)[Ljava/lang/Object;" } : Jvm.MethodName) jdk_65_method_119_code (2 : Nat) (Option.some (Jvm.ClassFile.FieldType.array (Jvm.ClassFile.FieldType.object "java/lang/Object"))), Jvm.Cond.code ({ cls := "java/util/Arrays", name := "copyOf", desc := "([Ljava/lang/Object;ILjava/lang/Class;)[Ljava/lang/Object;" } : Jvm.MethodName) jdk_65_method_120_code (4 : Nat) (Option.some (Jvm.ClassFile.FieldType.array (Jvm.ClassFile.FieldType.object "java/lang/Object"))), Jvm.Cond.code ({ cls := "java/lang/Math", name := "min", desc := "(II)I" } : Jvm.MethodName) jdk_29_method_69_code (2 : Nat) (Option.some Jvm.ClassFile.FieldType.int), Jvm.Cond.code ({ cls := "java/util/List", name := "of", desc := "([Ljava/lang/Object;)Ljava/util/List;" } : Jvm.MethodName) jdk_40_method_47_code (2 : Nat) (Option.some (Jvm.ClassFile.FieldType.object "java/util/List")), Jvm.Cond.code ({ cls := "java/util/ImmutableCollections", name := "listFromArray", desc := "([Ljava/lang/Object;)Ljava/util/List;" } : Jvm.MethodName) jdk_56_method_4_code (3 : Nat) (Option.some (Jvm.ClassFile.FieldType.object "java/util/List")), Jvm.Cond.code ({ cls := "java/util/Objects", name := "requireNonNull", desc := "(Ljava/lang/Object;)Ljava/lang/Object;" } : Jvm.MethodName) jdk_31_method_10_code (1 : Nat) (Option.some (Jvm.ClassFile.FieldType.object "java/lang/Object")), Jvm.Cond.code ({ cls := "java/util/ImmutableCollections$ListN", name := "<init>", desc := "([Ljava/lang/Object;Z)V" } : Jvm.MethodName) jdk_45_method_1_code (3 : Nat) (Option.none : Option Jvm.ClassFile.FieldType), Jvm.Cond.code ({ cls := "java/util/ImmutableCollections$AbstractImmutableList", name := "<init>", desc := "()V" } : Jvm.MethodName) jdk_46_method_1_code (1 : Nat) (Option.none : Option Jvm.ClassFile.FieldType), Jvm.Cond.code ({ cls := "java/util/ImmutableCollections$AbstractImmutableCollection", name := "<init>", desc := "()V" } : Jvm.MethodName) jdk_47_method_1_code (1 : Nat) (Option.none : Option Jvm.ClassFile.FieldType), Jvm.Cond.code ({ cls := "java/util/ImmutableCollections$List12", name := "<init>", desc := "(Ljava/lang/Object;Ljava/lang/Object;)V" } : Jvm.MethodName) jdk_44_method_2_code (3 : Nat) (Option.none : Option Jvm.ClassFile.FieldType), Jvm.Cond.code ({ cls := "com/example/matchwright/matchwright/core/InstanceVectors", name := "<init>", desc := "(Ljava/util/List;)V" } : Jvm.MethodName) prog_26_method_1_code (10 : Nat) (Option.none : Option Jvm.ClassFile.FieldType), Jvm.Cond.code ({ cls := "com/example/matchwright/matchwright/core/MatchObject", name := "vectors", desc := "()Ljava/util/List;" } : Jvm.MethodName) prog_29_method_7_code (1 : Nat) (Option.some (Jvm.ClassFile.FieldType.object "java/util/List")), Jvm.Cond.code ({ cls := "java/util/ImmutableCollections$List12", name := "size", desc := "()I" } : Jvm.MethodName) jdk_44_method_3_code (1 : Nat) (Option.some Jvm.ClassFile.FieldType.int), Jvm.Cond.code ({ cls := "java/util/ImmutableCollections$List12", name := "get", desc := "(I)Ljava/lang/Object;" } : Jvm.MethodName) jdk_44_method_5_code (2 : Nat) (Option.some (Jvm.ClassFile.FieldType.object "java/lang/Object")), Jvm.Cond.code ({ cls := "java/util/ImmutableCollections$ListN", name := "size", desc := "()I" } : Jvm.MethodName) jdk_45_method_3_code (1 : Nat) (Option.some Jvm.ClassFile.FieldType.int), Jvm.Cond.code ({ cls := "java/lang/Math", name := "toIntExact", desc := "(J)I" } : Jvm.MethodName) jdk_29_method_43_code (2 : Nat) (Option.some Jvm.ClassFile.FieldType.int), Jvm.Cond.code ({ cls := "java/util/ImmutableCollections$AbstractImmutableList", name := "iterator", desc := "()Ljava/util/Iterator;" } : Jvm.MethodName) jdk_46_method_10_code (1 : Nat) (Option.some (Jvm.ClassFile.FieldType.object "java/util/Iterator")), Jvm.Cond.code ({ cls := "java/util/ImmutableCollections$ListItr", name := "<init>", desc := "(Ljava/util/List;I)V" } : Jvm.MethodName) jdk_53_method_1_code (3 : Nat) (Option.none : Option Jvm.ClassFile.FieldType), Jvm.Cond.code ({ cls := "java/util/ImmutableCollections$ListItr", name := "hasNext", desc := "()Z" } : Jvm.MethodName) jdk_53_method_3_code (1 : Nat) (Option.some Jvm.ClassFile.FieldType.boolean), Jvm.Cond.code ({ cls := "java/util/ImmutableCollections$ListN", name := "get", desc := "(I)Ljava/lang/Object;" } : Jvm.MethodName) jdk_45_method_4_code (2 : Nat) (Option.some (Jvm.ClassFile.FieldType.object "java/lang/Object")), Jvm.Cond.code ({ cls := "com/example/matchwright/matchwright/core/InstanceVectors", name := "sumOf", desc := "(I)D" } : Jvm.MethodName) prog_26_method_14_code (5 : Nat) (Option.some Jvm.ClassFile.FieldType.double), Jvm.Cond.code ({ cls := "com/example/matchwright/matchwright/core/InstanceVectors", name := "compare", desc := "(II)I" } : Jvm.MethodName) prog_26_method_11_code (3 : Nat) (Option.some Jvm.ClassFile.FieldType.int), Jvm.Cond.code ({ cls := "com/example/matchwright/matchwright/core/InstanceVectors", name := "relation", desc := "(II)I" } : Jvm.MethodName) prog_26_method_15_code (6 : Nat) (Option.some Jvm.ClassFile.FieldType.int), Jvm.Cond.code ({ cls := "com/example/matchwright/matchwright/core/InstanceVectors", name := "checks", desc := "()J" } : Jvm.MethodName) prog_26_method_13_code (1 : Nat) (Option.some Jvm.ClassFile.FieldType.long)]
set_option maxRecDepth 65536 in
theorem codes_eq : words1.filter isCode = codes1 := rfl
theorem w_codes : ∀ c ∈ words1.filter isCode, c.before args0 about1 = true := by
  rw [codes_eq]
  intro c hc
  simp only [codes1, List.mem_cons, List.not_mem_nil, or_false] at hc
  rcases hc with rfl | rfl | rfl | rfl | rfl | rfl | rfl | rfl | rfl | rfl | rfl | rfl | rfl | rfl | rfl | rfl | rfl | rfl | rfl | rfl | rfl | rfl | rfl | rfl | rfl | rfl | rfl | rfl | rfl | rfl | rfl | rfl | rfl | rfl | rfl | rfl | rfl | rfl | rfl | rfl | rfl | rfl | rfl | rfl | rfl | rfl | rfl | rfl | rfl | rfl | rfl | rfl | rfl | rfl | rfl | rfl | rfl | rfl | rfl
  · exact w_c0
  · exact w_c1
  · exact w_c2
  · exact w_c3
  · exact w_c4
  · exact w_c5
  · exact w_c6
  · exact w_c7
  · exact w_c8
  · exact w_c9
  · exact w_c10
  · exact w_c11
  · exact w_c12
  · exact w_c13
  · exact w_c14
  · exact w_c15
  · exact w_c16
  · exact w_c17
  · exact w_c18
  · exact w_c19
  · exact w_c20
  · exact w_c21
  · exact w_c22
  · exact w_c23
  · exact w_c24
  · exact w_c25
  · exact w_c26
  · exact w_c27
  · exact w_c28
  · exact w_c29
  · exact w_c30
  · exact w_c31
  · exact w_c32
  · exact w_c33
  · exact w_c34
  · exact w_c35
  · exact w_c36
  · exact w_c37
  · exact w_c38
  · exact w_c39
  · exact w_c40
  · exact w_c41
  · exact w_c42
  · exact w_c43
  · exact w_c44
  · exact w_c45
  · exact w_c46
  · exact w_c47
  · exact w_c48
  · exact w_c49
  · exact w_c50
  · exact w_c51
  · exact w_c52
  · exact w_c53
  · exact w_c54
  · exact w_c55
  · exact w_c56
  · exact w_c57
  · exact w_c58
set_option maxRecDepth 65536 in
theorem w_t1 : (words1.take 24).all (fun c => isCode c || c.before args0 about1) = true := by decide +kernel
set_option maxRecDepth 65536 in
theorem w_t2 : ((words1.drop 24).take 24).all (fun c => isCode c || c.before args0 about1) = true := by decide +kernel
set_option maxRecDepth 65536 in
theorem w_t3 : (((words1.drop 24).drop 24).take 24).all (fun c => isCode c || c.before args0 about1) = true := by decide +kernel
set_option maxRecDepth 65536 in
theorem w_t4 : ((((words1.drop 24).drop 24).drop 24).take 24).all (fun c => isCode c || c.before args0 about1) = true := by decide +kernel
set_option maxRecDepth 65536 in
theorem w_t5 : (((((words1.drop 24).drop 24).drop 24).drop 24).take 24).all (fun c => isCode c || c.before args0 about1) = true := by decide +kernel
set_option maxRecDepth 65536 in
theorem w_t6 : ((((((words1.drop 24).drop 24).drop 24).drop 24).drop 24).take 24).all (fun c => isCode c || c.before args0 about1) = true := by decide +kernel
set_option maxRecDepth 65536 in
theorem w_t7 : (((((((words1.drop 24).drop 24).drop 24).drop 24).drop 24).drop 24).take 24).all (fun c => isCode c || c.before args0 about1) = true := by decide +kernel
set_option maxRecDepth 65536 in
theorem w_t8 : ((((((((words1.drop 24).drop 24).drop 24).drop 24).drop 24).drop 24).drop 24).take 24).all (fun c => isCode c || c.before args0 about1) = true := by decide +kernel
set_option maxRecDepth 65536 in
theorem w_t9 : (((((((((words1.drop 24).drop 24).drop 24).drop 24).drop 24).drop 24).drop 24).drop 24).take 24).all (fun c => isCode c || c.before args0 about1) = true := by decide +kernel
set_option maxRecDepth 65536 in
theorem w_t10 : ((((((((((words1.drop 24).drop 24).drop 24).drop 24).drop 24).drop 24).drop 24).drop 24).drop 24).take 24).all (fun c => isCode c || c.before args0 about1) = true := by decide +kernel
set_option maxRecDepth 65536 in
theorem w_t11 : (((((((((((words1.drop 24).drop 24).drop 24).drop 24).drop 24).drop 24).drop 24).drop 24).drop 24).drop 24).take 24).all (fun c => isCode c || c.before args0 about1) = true := by decide +kernel
set_option maxRecDepth 65536 in
theorem w_t12 : ((((((((((((words1.drop 24).drop 24).drop 24).drop 24).drop 24).drop 24).drop 24).drop 24).drop 24).drop 24).drop 24).take 24).all (fun c => isCode c || c.before args0 about1) = true := by decide +kernel
set_option maxRecDepth 65536 in
theorem w_t13 : (((((((((((((words1.drop 24).drop 24).drop 24).drop 24).drop 24).drop 24).drop 24).drop 24).drop 24).drop 24).drop 24).drop 24).take 24).all (fun c => isCode c || c.before args0 about1) = true := by decide +kernel
set_option maxRecDepth 65536 in
theorem w_t14 : ((((((((((((((words1.drop 24).drop 24).drop 24).drop 24).drop 24).drop 24).drop 24).drop 24).drop 24).drop 24).drop 24).drop 24).drop 24).take 24).all (fun c => isCode c || c.before args0 about1) = true := by decide +kernel
set_option maxRecDepth 65536 in
theorem w_t15 : (((((((((((((((words1.drop 24).drop 24).drop 24).drop 24).drop 24).drop 24).drop 24).drop 24).drop 24).drop 24).drop 24).drop 24).drop 24).drop 24).take 24).all (fun c => isCode c || c.before args0 about1) = true := by decide +kernel
set_option maxRecDepth 65536 in
theorem w_t16 : ((((((((((((((((words1.drop 24).drop 24).drop 24).drop 24).drop 24).drop 24).drop 24).drop 24).drop 24).drop 24).drop 24).drop 24).drop 24).drop 24).drop 24).take 24).all (fun c => isCode c || c.before args0 about1) = true := by decide +kernel
set_option maxRecDepth 65536 in
theorem w_t17 : (((((((((((((((((words1.drop 24).drop 24).drop 24).drop 24).drop 24).drop 24).drop 24).drop 24).drop 24).drop 24).drop 24).drop 24).drop 24).drop 24).drop 24).drop 24).take 24).all (fun c => isCode c || c.before args0 about1) = true := by decide +kernel
set_option maxRecDepth 65536 in
theorem w_t18 : ((((((((((((((((((words1.drop 24).drop 24).drop 24).drop 24).drop 24).drop 24).drop 24).drop 24).drop 24).drop 24).drop 24).drop 24).drop 24).drop 24).drop 24).drop 24).drop 24).take 24).all (fun c => isCode c || c.before args0 about1) = true := by decide +kernel
set_option maxRecDepth 65536 in
theorem w_t19 : ((((((((((((((((((words1.drop 24).drop 24).drop 24).drop 24).drop 24).drop 24).drop 24).drop 24).drop 24).drop 24).drop 24).drop 24).drop 24).drop 24).drop 24).drop 24).drop 24).drop 24).all (fun c => isCode c || c.before args0 about1) = true := by decide +kernel
theorem w_tables : (allAtoms (Jvm.Cond.code x code maxLocals ret :: tables_1)).before args0 about1 = true := by
  rw [allAtoms_all]
  show words1.all (fun c => c.before args0 about1) = true
  refine all_split ?_ w_codes
  rw [← List.take_append_drop 24 words1, List.all_append, w_t1, ← List.take_append_drop 24 (words1.drop 24), List.all_append, w_t2, ← List.take_append_drop 24 ((words1.drop 24).drop 24), List.all_append, w_t3, ← List.take_append_drop 24 (((words1.drop 24).drop 24).drop 24), List.all_append, w_t4, ← List.take_append_drop 24 ((((words1.drop 24).drop 24).drop 24).drop 24), List.all_append, w_t5, ← List.take_append_drop 24 (((((words1.drop 24).drop 24).drop 24).drop 24).drop 24), List.all_append, w_t6, ← List.take_append_drop 24 ((((((words1.drop 24).drop 24).drop 24).drop 24).drop 24).drop 24), List.all_append, w_t7, ← List.take_append_drop 24 (((((((words1.drop 24).drop 24).drop 24).drop 24).drop 24).drop 24).drop 24), List.all_append, w_t8, ← List.take_append_drop 24 ((((((((words1.drop 24).drop 24).drop 24).drop 24).drop 24).drop 24).drop 24).drop 24), List.all_append, w_t9, ← List.take_append_drop 24 (((((((((words1.drop 24).drop 24).drop 24).drop 24).drop 24).drop 24).drop 24).drop 24).drop 24), List.all_append, w_t10, ← List.take_append_drop 24 ((((((((((words1.drop 24).drop 24).drop 24).drop 24).drop 24).drop 24).drop 24).drop 24).drop 24).drop 24), List.all_append, w_t11, ← List.take_append_drop 24 (((((((((((words1.drop 24).drop 24).drop 24).drop 24).drop 24).drop 24).drop 24).drop 24).drop 24).drop 24).drop 24), List.all_append, w_t12, ← List.take_append_drop 24 ((((((((((((words1.drop 24).drop 24).drop 24).drop 24).drop 24).drop 24).drop 24).drop 24).drop 24).drop 24).drop 24).drop 24), List.all_append, w_t13, ← List.take_append_drop 24 (((((((((((((words1.drop 24).drop 24).drop 24).drop 24).drop 24).drop 24).drop 24).drop 24).drop 24).drop 24).drop 24).drop 24).drop 24), List.all_append, w_t14, ← List.take_append_drop 24 ((((((((((((((words1.drop 24).drop 24).drop 24).drop 24).drop 24).drop 24).drop 24).drop 24).drop 24).drop 24).drop 24).drop 24).drop 24).drop 24), List.all_append, w_t15, ← List.take_append_drop 24 (((((((((((((((words1.drop 24).drop 24).drop 24).drop 24).drop 24).drop 24).drop 24).drop 24).drop 24).drop 24).drop 24).drop 24).drop 24).drop 24).drop 24), List.all_append, w_t16, ← List.take_append_drop 24 ((((((((((((((((words1.drop 24).drop 24).drop 24).drop 24).drop 24).drop 24).drop 24).drop 24).drop 24).drop 24).drop 24).drop 24).drop 24).drop 24).drop 24).drop 24), List.all_append, w_t17, ← List.take_append_drop 24 (((((((((((((((((words1.drop 24).drop 24).drop 24).drop 24).drop 24).drop 24).drop 24).drop 24).drop 24).drop 24).drop 24).drop 24).drop 24).drop 24).drop 24).drop 24).drop 24), List.all_append, w_t18, w_t19]
  rfl
set_option maxRecDepth 65536 in
theorem w_rest : rest_1_c.before args0 about1 = true := by decide +kernel
set_option maxRecDepth 65536 in
theorem w_case : (Jvm.Cond.and given_1 narrow_1).before args0 about1 = true := by decide +kernel
theorem w_applies : (headSpec (Jvm.Cond.code x code maxLocals ret :: tables_1) room_1).applies x e0.platform about1 = true :=
  (Spec.applies_iff w_frames).mpr ⟨w_running, w_runnable, w_alone, w_named, w_hears, w_ripe, w_room, w_tables⟩
theorem atStart : AtStart classFile x code maxLocals ret World_1 tables_1 room_1 Calls_1 rest_1 Pre_1 launch0 p0 e0 about1 theMethod args0 below0 :=
  ⟨lists_1, trivial, launch0.admits_env _ _ _, launch0.least_env, fairChoices_fair.cas, fairChoices_fair.clock, w_frames, w_args, w_heap, w_applies, ⟨⟨43, k43, 2, by decide +kernel, rfl, rfl, _, rfl, rfl⟩, trivial⟩, w_rest, w_case⟩
end start1
theorem witness_1 : WitnessClaimed_1 := ⟨start1.p0, start1.e0, start1.about1, start1.theMethod, start1.args0, start1.below0, start1.atStart⟩
end Jvm.Pilot.@@N@@
